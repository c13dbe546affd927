/-
  The walks of the clone of a byte slice (14).
-/
import Derived.Test.Qxb6003728aRows
import Derived.WalkKit
import Derived.Outline
import Derived.WalkSpells
import Derived.WalkSmall
namespace Go.Proofs.Qxb6003728a.Clone
open Go.RowKit

theorem hide {p : Prop} (h : p) : Hid p := h
theorem info5 : (Try.prog.info? 5).map (fun i => (i.zero, i.size, i.bytes)) = some (some (.int .u8 0), 1, 1) := by kernel_rfl

/-- the bytes that a slice leads to -/
def Src (w : World) (a : Option Addr) (zs : List Int) : Prop :=
  zs = [] ∨ ∃ b off, a = some ⟨b, off, none⟩ ∧ b < w.heap.size ∧ ∀ i, i < zs.length → w.cell? ⟨b, off + i, none⟩ = some (.int .u8 (zs.getD i 0))

/-- zs so far, zeros behind -/
def part (zs : List Int) (k : Nat) : List Value := (zs.take k ++ List.replicate (zs.length - k) 0).map (Value.int .u8)

theorem part_get (zs : List Int) (k i : Nat) (hk : k ≤ zs.length) : (part zs k)[i]? = if i < zs.length then some (Value.int .u8 (if i < k then zs.getD i 0 else 0)) else none := by
  unfold part
  rw [List.getElem?_map, List.getElem?_append]
  by_cases h1 : i < k
  · have h2 : i < zs.length := by omega
    rw [if_pos (by simp; omega), if_pos h2, if_pos h1, List.getElem?_take_of_lt h1]
    simp [List.getD, h2]
  · rw [if_neg (by simp; omega), if_neg h1, List.getElem?_replicate]
    by_cases h2 : i < zs.length
    · rw [if_pos h2, if_pos (by simp; omega)]; simp
    · rw [if_neg h2, if_neg (by simp; omega)]; simp

theorem part_set (zs : List Int) (k : Nat) (hk : k < zs.length) : (part zs k).set k (.int .u8 (zs.getD k 0)) = part zs (k + 1) := by
  apply List.ext_getElem?
  intro i
  rw [List.getElem?_set, part_get zs (k + 1) i (by omega), part_get zs k i (by omega)]
  have hl : (part zs k).length = zs.length := by simp [part]; omega
  by_cases e : k = i
  · subst e
    rw [if_pos rfl, if_pos (by omega), if_pos hk, if_pos (by omega)]
  · rw [if_neg e]
    by_cases h2 : i < zs.length
    · rw [if_pos h2, if_pos h2]
      by_cases h3 : i < k
      · rw [if_pos h3, if_pos (by omega)]
      · rw [if_neg h3, if_neg (by omega)]
    · rw [if_neg h2, if_neg h2]
theorem part_all (zs : List Int) : part zs zs.length = zs.map (Value.int .u8) := by simp [part]
theorem part_zero (zs : List Int) : part zs 0 = List.replicate zs.length (.int .u8 0) := by simp [part]

set_option maxHeartbeats 400000 in
theorem clone_nil (w : World) : Calls Try.prog 14 #[.slice none 0 0] w fun e w' => e = .returned (.slice none 0 0) ∧ w' = w := by
  have hn := fun (w : World) => Lib.run_eql_slice_nil (P := Try.prog) w 23 5 none 0 0 0 0 Try.underlying23
  go_enter Try.func14, Try.ntmps14
  go_wp2
  go_ret
  exact ⟨rfl, rfl⟩

set_option maxRecDepth 100000 in
set_option maxHeartbeats 1000000 in
theorem clone_some (b off cap : Nat) (zs : List Int) (w : World) (hc : ∀ i, i < zs.length → w.cell? ⟨b, off + i, none⟩ = some (.int .u8 (zs.getD i 0))) (hm : zs.length ≤ 1048576) (hb : b < w.heap.size) :
    Calls Try.prog 14 #[.slice (some ⟨b, off, none⟩) zs.length cap] w fun e w' => e = .returned (.slice (some ⟨w.heap.size, 0, none⟩) zs.length zs.length) ∧ w'.ownsRow w.heap.size 5 1 (.slice (some ⟨w.heap.size, 0, none⟩) zs.length zs.length) zs.length (zs.map (Value.int .u8)) ∧ Below w.heap.size w w' := by
  obtain ⟨i0, hi, hz0, hz1, hz2⟩ := info_parts info5
  have hn := fun (w : World) => Lib.run_eql_slice_nil (P := Try.prog) w 23 5 (some ⟨b, off, none⟩) zs.length cap 0 0 Try.underlying23
  have HC := hide hc
  clear hc
  go_enter Try.func14, Try.ntmps14
  go_wp2_with (at_make; refine wpList_make_full _ rfl _ _ 23 rfl w.heap.size 5 i0 (.int .u8 0) 1 Try.underlying23 hi hz0 hz1 .i64 .i64 _ _ zs.length rfl rfl rfl rfl ?b2 ?b3 ?b4 ?_)
  case b2 => rw [hz2]; omega
  case b3 => unfold maxLen; omega
  case b4 => simp
  intro w1 hown hgrow
  have hown1 : w1.ownsRow w.heap.size 5 1 (.slice (some ⟨w.heap.size, 0, none⟩) zs.length zs.length) zs.length (part zs 0) := by
    have e : (madeCells #[Value.int .u8 0] zs.length).toList = part zs 0 := by
      rw [part_zero]; exact toList_madeCells_one _ _
    rw [← e]; exact hown
  have hb1 : Below w.heap.size w w1 := (Below.refl _ _).grown hgrow (Nat.le_refl _) (fun k h => by cases h)
  have O := hide hown1
  have HB := hide hb1
  clear hown hgrow hown1 hb1 hn
  go_wp2
  go_loopw [4] (fun i wr => ∃ k : Nat, k ≤ zs.length ∧ i = .int .i64 k ∧ wr.ownsRow w.heap.size 5 1 (.slice (some ⟨w.heap.size, 0, none⟩) zs.length zs.length) zs.length (part zs k) ∧ Below w.heap.size w wr) (fun i _ => zs.length - (intOf i).toNat)
  case atStart => exact ⟨0, Nat.zero_le _, rfl, O.out, HB.out⟩
  case round =>
    obtain ⟨k, hk, rfl, hown, hbel⟩ := hrel
    by_cases hlt : k < zs.length
    · obtain ⟨z, hz⟩ : ∃ z, z = zs.getD k 0 := ⟨_, rfl⟩
      have c1 : wr.cell? ⟨b, off + k, none⟩ = some (.int .u8 z) := by rw [hz]; exact (hbel.cell (p := ⟨b, off + k, none⟩) hb).trans (HC.out k hlt)
      have hl : k < (part zs k).length := by simp [part]; omega
      obtain ⟨v0, c2⟩ : ∃ v0, wr.cell? ⟨w.heap.size, k, none⟩ = some v0 := ⟨_, (hown.cellAt k (by omega)).trans (List.getElem?_eq_getElem hl)⟩
      have f2 := hown.frozenAt k
      have R1 := hide (hown.stored k (.int .u8 z)).1
      have R2 := hide (hbel.setCell (p := ⟨w.heap.size, k, none⟩) (Nat.le_refl _) (.int .u8 z))
      have PS : Hid ((part zs k).set k (.int .u8 z) = part zs (k + 1)) := by rw [hz]; exact part_set zs k hlt
      clear hz
      clear hown hbel O HB HC
      go_wp2
      go_roundw
      case rel => exact ⟨k + 1, by omega, by go_num, by rw [← PS.out]; exact R1.out, R2.out⟩
      case measure => simp [intOf]; omega
    · have e : k = zs.length := by omega
      subst e
      rw [part_all] at hown
      have R1 := hide hown
      have R2 := hide hbel
      clear hown hbel O HB HC
      go_wp2
      go_ret
      exact ⟨rfl, R1.out, R2.out⟩

set_option maxRecDepth 100000 in
set_option maxHeartbeats 1000000 in
theorem clone_empty (x : Addr) (cap : Nat) (w : World) :
    Calls Try.prog 14 #[.slice (some x) 0 cap] w fun e w' => e = .returned (.slice (some ⟨w.heap.size, 0, none⟩) 0 0) ∧ w'.ownsRow w.heap.size 5 1 (.slice (some ⟨w.heap.size, 0, none⟩) 0 0) 0 [] ∧ Below w.heap.size w w' := by
  obtain ⟨i0, hi, hz0, hz1, hz2⟩ := info_parts info5
  have hn := fun (w : World) => Lib.run_eql_slice_nil (P := Try.prog) w 23 5 (some x) 0 cap 0 0 Try.underlying23
  go_enter Try.func14, Try.ntmps14
  go_wp2_with (at_make; refine wpList_make_full _ rfl _ _ 23 rfl w.heap.size 5 i0 (.int .u8 0) 1 Try.underlying23 hi hz0 hz1 .i64 .i64 _ _ 0 rfl rfl rfl rfl ?b2 ?b3 ?b4 ?_)
  case b2 => rw [hz2]; omega
  case b3 => unfold maxLen; omega
  case b4 => simp
  intro w1 hown hgrow
  have hown1 : w1.ownsRow w.heap.size 5 1 (.slice (some ⟨w.heap.size, 0, none⟩) 0 0) 0 [] := by
    have e : (madeCells #[Value.int .u8 0] 0).toList = [] := by rw [toList_madeCells_one]; rfl
    rw [← e]; exact hown
  have hb1 : Below w.heap.size w w1 := (Below.refl _ _).grown hgrow (Nat.le_refl _) (fun k h => by cases h)
  have O := hide hown1
  have HB := hide hb1
  clear hown hgrow hown1 hb1 hn
  go_wp2
  refine wp_loop_rounds 1 ?_
  rw [rounds_succ]
  go_wp2
  go_ret
  exact ⟨rfl, O.out, HB.out⟩

/-- clone, whatever it is handed -/
theorem clone_any (a : Option Addr) (cap : Nat) (zs : List Int) (w : World) (hnil : a = none → zs = [] ∧ cap = 0) (hs : Src w a zs) (hm : zs.length ≤ 1048576) :
    Calls Try.prog 14 #[.slice a zs.length cap] w fun e w' => ∃ v, e = .returned v ∧ w'.ownsRow w.heap.size 5 1 v zs.length (zs.map (Value.int .u8)) ∧ Below w.heap.size w w' := by
  cases a with
  | none =>
    obtain ⟨rfl, rfl⟩ := hnil rfl
    exact (clone_nil w).mono fun e w' ⟨he, hw⟩ => by subst hw; exact ⟨_, he, World.ownsRow_nil _ _ _ _, Below.refl _ _⟩
  | some x =>
    rcases hs with rfl | ⟨b, off, e, hb, hc⟩
    · exact (clone_empty x cap w).mono fun e w' ⟨he, ho, hb⟩ => ⟨_, he, ho, hb⟩
    · simp at e
      subst e
      exact (clone_some b off cap zs w hc hm hb).mono fun e w' ⟨he, ho, hb⟩ => ⟨_, he, ho, hb⟩

end Go.Proofs.Qxb6003728a.Clone
