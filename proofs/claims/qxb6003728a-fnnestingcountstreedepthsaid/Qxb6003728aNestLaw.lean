/-
  THE PLAIN LAW of nesting, no Go in sight: the scanner 'nest'; what each piece of rendered text does to it; the weight of the open containers.
-/
namespace Go.Proofs.Qxb6003728a.NestLaw

/-- nesting's loop over what is left of the text: deepest, depth, inString -/
def nest : List Int → Int → Int → Bool → Int
  | [], d, _, _ => d
  | c :: r, d, p, true =>
    if c = 92 then (match r with | [] => d | _ :: r' => nest r' d p true)
    else if c = 34 then nest r d p false else nest r d p true
  | c :: r, d, p, false =>
    if c = 34 then nest r d p true
    else if c = 91 then nest r (max d (p + 1)) (p + 1) false
    else if c = 123 then nest r (max d (p + 1)) (p + 2) false
    else if c = 93 then nest r d (p - 1) false
    else if c = 125 then nest r d (p - 2) false
    else nest r d p false

theorem nest_in (c : Int) (r : List Int) (d p : Int) : nest (c :: r) d p true = if c = 92 then nest r.tail d p true else if c = 34 then nest r d p false else nest r d p true := by
  cases r <;> simp [nest]

theorem drop_cons {l : List Int} {k : Nat} (hk : k < l.length) : l.drop k = l.getD k 0 :: l.drop (k + 1) := by
  rw [List.drop_eq_getElem_cons hk]; simp [List.getD, hk]

section
variable {l : List Int} {k : Nat} (d p : Int)
theorem in_esc (hk : k < l.length) (h : l.getD k 0 = 92) : nest (l.drop k) d p true = nest (l.drop (k + 2)) d p true := by
  rw [drop_cons hk, nest_in, if_pos h, List.tail_drop]
theorem in_end (hk : k < l.length) (h : l.getD k 0 = 34) : nest (l.drop k) d p true = nest (l.drop (k + 1)) d p false := by
  rw [drop_cons hk, nest_in, if_neg (by omega), if_pos h]
theorem in_other (hk : k < l.length) (h1 : l.getD k 0 ≠ 92) (h2 : l.getD k 0 ≠ 34) : nest (l.drop k) d p true = nest (l.drop (k + 1)) d p true := by
  rw [drop_cons hk, nest_in, if_neg h1, if_neg h2]
theorem out_str (hk : k < l.length) (h : l.getD k 0 = 34) : nest (l.drop k) d p false = nest (l.drop (k + 1)) d p true := by
  rw [drop_cons hk, nest, if_pos h]
theorem out_arr (hk : k < l.length) (h : l.getD k 0 = 91) : nest (l.drop k) d p false = nest (l.drop (k + 1)) (max d (p + 1)) (p + 1) false := by
  rw [drop_cons hk, nest, if_neg (by omega), if_pos h]
theorem out_obj (hk : k < l.length) (h : l.getD k 0 = 123) : nest (l.drop k) d p false = nest (l.drop (k + 1)) (max d (p + 1)) (p + 2) false := by
  rw [drop_cons hk, nest, if_neg (by omega), if_neg (by omega), if_pos h]
theorem out_carr (hk : k < l.length) (h : l.getD k 0 = 93) : nest (l.drop k) d p false = nest (l.drop (k + 1)) d (p - 1) false := by
  rw [drop_cons hk, nest, if_neg (by omega), if_neg (by omega), if_neg (by omega), if_pos h]
theorem out_cobj (hk : k < l.length) (h : l.getD k 0 = 125) : nest (l.drop k) d p false = nest (l.drop (k + 1)) d (p - 2) false := by
  rw [drop_cons hk, nest, if_neg (by omega), if_neg (by omega), if_neg (by omega), if_neg (by omega), if_pos h]
theorem out_other (hk : k < l.length) (h1 : l.getD k 0 ≠ 34) (h2 : l.getD k 0 ≠ 91) (h3 : l.getD k 0 ≠ 123) (h4 : l.getD k 0 ≠ 93) (h5 : l.getD k 0 ≠ 125) : nest (l.drop k) d p false = nest (l.drop (k + 1)) d p false := by
  rw [drop_cons hk, nest, if_neg h1, if_neg h2, if_neg h3, if_neg h4, if_neg h5]
theorem at_end (b : Bool) (hk : l.length ≤ k) : nest (l.drop k) d p b = d := by
  rw [List.drop_eq_nil_of_le hk]; cases b <;> simp [nest]
end

/-- the text so far leaves the scanner outside of strings, at these two numbers -/
def R (out : List Int) (d p : Int) : Prop := ∀ x, nest (out ++ x) 0 0 false = nest x d p false
/-- .. inside of a string -/
def S (out : List Int) (d p : Int) : Prop := ∀ x, nest (out ++ x) 0 0 false = nest x d p true

theorem R_nil : R [] 0 0 := fun x => by simp
theorem R_plain {out : List Int} {d p c : Int} (h : R out d p) (h1 : c ≠ 34) (h2 : c ≠ 91) (h3 : c ≠ 123) (h4 : c ≠ 93) (h5 : c ≠ 125) : R (out ++ [c]) d p := fun x => by
  rw [List.append_assoc, h, List.singleton_append, nest, if_neg h1, if_neg h2, if_neg h3, if_neg h4, if_neg h5]
theorem R_plains {out : List Int} {d p : Int} (news : List Int) (h : R out d p) (hn : ∀ c ∈ news, c ≠ 34 ∧ c ≠ 91 ∧ c ≠ 123 ∧ c ≠ 93 ∧ c ≠ 125) : R (out ++ news) d p := by
  induction news generalizing out with
  | nil => simpa using h
  | cons c r ih =>
    have hc := hn c (by simp)
    have := ih (R_plain h hc.1 hc.2.1 hc.2.2.1 hc.2.2.2.1 hc.2.2.2.2) (fun x hx => hn x (by simp [hx]))
    simpa using this
theorem R_arr {out : List Int} {d p : Int} (h : R out d p) : R (out ++ [91]) (max d (p + 1)) (p + 1) := fun x => by
  rw [List.append_assoc, h, List.singleton_append, nest, if_neg (by omega), if_pos rfl]
theorem R_obj {out : List Int} {d p : Int} (h : R out d p) : R (out ++ [123]) (max d (p + 1)) (p + 2) := fun x => by
  rw [List.append_assoc, h, List.singleton_append, nest, if_neg (by omega), if_neg (by omega), if_pos rfl]
theorem R_carr {out : List Int} {d p : Int} (h : R out d p) : R (out ++ [93]) d (p - 1) := fun x => by
  rw [List.append_assoc, h, List.singleton_append, nest, if_neg (by omega), if_neg (by omega), if_neg (by omega), if_pos rfl]
theorem R_cobj {out : List Int} {d p : Int} (h : R out d p) : R (out ++ [125]) d (p - 2) := fun x => by
  rw [List.append_assoc, h, List.singleton_append, nest, if_neg (by omega), if_neg (by omega), if_neg (by omega), if_neg (by omega), if_pos rfl]
theorem R_quote {out : List Int} {d p : Int} (h : R out d p) : S (out ++ [34]) d p := fun x => by
  rw [List.append_assoc, h, List.singleton_append, nest, if_pos rfl]
theorem S_quote {out : List Int} {d p : Int} (h : S out d p) : R (out ++ [34]) d p := fun x => by
  rw [List.append_assoc, h, List.singleton_append, nest_in, if_neg (by omega), if_pos rfl]
theorem S_plain {out : List Int} {d p c : Int} (h : S out d p) (h1 : c ≠ 34) (h2 : c ≠ 92) : S (out ++ [c]) d p := fun x => by
  rw [List.append_assoc, h, List.singleton_append, nest_in, if_neg h2, if_neg h1]
theorem S_esc {out : List Int} {d p : Int} (c : Int) (h : S out d p) : S (out ++ [92] ++ [c]) d p := fun x => by
  rw [List.append_assoc, List.append_assoc, h, List.singleton_append, List.singleton_append, nest_in, if_pos rfl, List.tail_cons]
theorem R_done {out : List Int} {d p : Int} (h : R out d p) : nest out 0 0 false = d := by
  have := h []
  simpa [nest] using this

/-- how deep a value stands inside the open containers -/
def jq : List Int → Int
  | [] => 0
  | c :: r => (if c = 111 then 2 else 1) + jq r

theorem jq_append (a b : List Int) : jq (a ++ b) = jq a + jq b := by
  induction a with
  | nil => simp [jq]
  | cons c r ih => simp [jq, ih]; omega
theorem jq_nonneg (a : List Int) : 0 ≤ jq a ∧ jq a ≤ 2 * a.length := by
  induction a with
  | nil => simp [jq]
  | cons c r ih => simp only [jq, List.length_cons]; split <;> omega
theorem jq_take_succ (a : List Int) (k : Nat) (hk : k < a.length) : jq (a.take (k + 1)) = jq (a.take k) + if a.getD k 0 = 111 then 2 else 1 := by
  rw [List.take_succ_eq_append_getElem hk, jq_append]; simp [jq, List.getD, hk]

/-- every open container is an array or an object -/
def Kinds (l : List Int) : Prop := ∀ c ∈ l, c = 97 ∨ c = 111
theorem Kinds.push {l : List Int} (h : Kinds l) {c : Int} (hc : c = 97 ∨ c = 111) : Kinds (l ++ [c]) := fun x hx => by
  rcases List.mem_append.1 hx with hx | hx
  · exact h x hx
  · simp at hx; subst hx; exact hc
theorem Kinds.pop {l : List Int} (h : Kinds l) (n : Nat) : Kinds (l.take n) := fun x hx => h x (List.mem_of_mem_take hx)

/-- what closing the innermost container writes -/
def closer (kinds : List Int) : Int := if kinds.getD (kinds.length - 1) 0 = 97 then 93 else 125

theorem R_close {out kinds : List Int} {d : Int} (hk : Kinds kinds) (hne : 0 < kinds.length) (h : R out d (jq kinds)) : R (out ++ [closer kinds]) d (jq (kinds.take (kinds.length - 1))) := by
  have hs := jq_take_succ kinds (kinds.length - 1) (by omega)
  rw [show kinds.length - 1 + 1 = kinds.length by omega, List.take_length] at hs
  have hm : kinds.getD (kinds.length - 1) 0 = 97 ∨ kinds.getD (kinds.length - 1) 0 = 111 := by
    have hl : kinds.length - 1 < kinds.length := by omega
    have e : kinds.getD (kinds.length - 1) 0 = kinds[kinds.length - 1] := by simp [List.getD, hl]
    rw [e]; exact hk _ (List.getElem_mem hl)
  unfold closer
  rcases hm with hm | hm
  · rw [if_pos hm]
    rw [hm] at hs
    have e : jq (kinds.take (kinds.length - 1)) = jq kinds - 1 := by simp at hs; omega
    rw [e]; exact R_carr h
  · rw [if_neg (by omega)]
    rw [hm] at hs
    have e : jq (kinds.take (kinds.length - 1)) = jq kinds - 2 := by simp at hs; omega
    rw [e]; exact R_cobj h

end Go.Proofs.Qxb6003728a.NestLaw
