/-
  THE PLAIN LAW of a run of id bytes, no Go in sight.
-/
import Derived.Test.Qxb6003698aAddRun
namespace Go.Proofs.Qxb6003698a.IdLaw
open Go.Proofs.Qxb6003698a.Bytes Go.Proofs.Qxb6003698a.AddRun

/-- bytes as numbers -/
def U (l : List UInt8) : List Int := l.map fun u => (u.toNat : Int)
@[simp] theorem U_length (l : List UInt8) : (U l).length = l.length := by simp [U]
theorem U_append (a b : List UInt8) : U (a ++ b) = U a ++ U b := by simp [U]
def isD (u : UInt8) : Bool := digB (u.toNat : Int)
def isL (u : UInt8) : Bool := letB (u.toNat : Int)
/-- is the byte ahead of place k a digit? -/
def prevD (l : List UInt8) : Nat → Bool
  | 0 => false
  | k + 1 => isD (l.getD k 0)
/-- what byte k adds to the normal form -/
def piece (l : List UInt8) (k : Nat) : List UInt8 := if isD (l.getD k 0) = false then [l.getD k 0] else if prevD l k = false then [78] else []
/-- the normal form of the first k bytes -/
def NT (l : List UInt8) : Nat → List UInt8
  | 0 => []
  | k + 1 => NT l k ++ piece l k
def anyD (l : List UInt8) : Nat → Bool
  | 0 => false
  | k + 1 => anyD l k || isD (l.getD k 0)
def anyL (l : List UInt8) : Nat → Bool
  | 0 => false
  | k + 1 => anyL l k || isL (l.getD k 0)
/-- the normal form -/
def nf (l : List UInt8) : List UInt8 := if (8 ≤ l.length ∧ anyD l l.length = true) ∧ anyL l l.length = true then [88] else NT l l.length

theorem piece_len (l : List UInt8) (k : Nat) : (piece l k).length ≤ 1 := by
  unfold piece; split
  · simp
  · split <;> simp
theorem NT_len (l : List UInt8) (k : Nat) : (NT l k).length ≤ k := by
  induction k with
  | zero => simp [NT]
  | succ k ih => have := piece_len l k; simp [NT]; omega
theorem NT_pos (l : List UInt8) (k : Nat) : 0 < (NT l (k + 1)).length := by
  induction k with
  | zero => simp [NT, piece, prevD]; split <;> simp
  | succ k ih => rw [NT, List.length_append]; omega
theorem nf_pos (l : List UInt8) (h : 0 < l.length) : 0 < (nf l).length := by
  unfold nf; split
  · simp
  · obtain ⟨n, hn⟩ : ∃ n, l.length = n + 1 := ⟨l.length - 1, by omega⟩
    rw [hn]; exact NT_pos l n

/-- one byte more -/
theorem run_step (pre l : List UInt8) (k : Nat) : runIn (U (pre ++ NT l k)) (prevD l k) ((l.getD k 0).toNat : Int) = U (pre ++ NT l (k + 1)) := by
  rw [NT, ← List.append_assoc, U_append (pre ++ NT l k)]
  unfold runIn piece isD
  cases h : digB ((l.getD k 0).toNat : Int) with
  | false => simp [U]
  | true =>
    cases h2 : prevD l k with
    | false => simp [U]
    | true => simp [U]

/-- the cells of the run behind k bytes -/
def stAt (pre : List UInt8) (k : Nat) : Int := if k = 0 then 0 else pre.length
def lnAt (k : Nat) : Int := min (k : Int) 8
theorem st_step (pre l : List UInt8) (k : Nat) : startIn (U (pre ++ NT l k)) (stAt pre k) (lnAt k) = stAt pre (k + 1) := by
  unfold startIn stAt lnAt
  rw [if_neg (show ¬ k + 1 = 0 by omega)]
  by_cases h : k = 0
  · subst h; rw [if_pos (by decide)]; simp [NT]
  · rw [if_neg (by omega), if_neg h]
theorem ln_step (k : Nat) : lenIn (lnAt k) = lnAt (k + 1) := by unfold lenIn lnAt; omega

/-- the run's end -/
theorem take_pre (pre l : List UInt8) (k : Nat) : (U (pre ++ NT l k)).take pre.length = U pre := by
  rw [U_append, List.take_append_of_le_length (by simp), List.take_of_length_le (by simp)]

end Go.Proofs.Qxb6003698a.IdLaw
