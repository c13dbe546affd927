/-
  The walk of FnBatchRecordsGrowsWithBatchAndWindowShrinksWithRecordSize (3).
-/
import Derived.Test.Qxb6003693aValid
import Derived.Deep.RegionWith
namespace Go.Proofs.Qxb6003693a.Grows
open Go.ChangeShapes Go.WideShapes Go.ChangeAt Go.RowKit Go.Proofs.Qxb6003693a.Parts

/-- two configs lie whole, one behind the other, from block B on -/
def Both (W : World) (B : Nat) (a1 b1 c1 d1 a2 b2 c2 d2 : Int) : Prop :=
  (B + 1 < W.heap.size ∧ W.cell? ⟨B, 0, none⟩ = some (.int .i64 a1) ∧ W.cell? ⟨B, 1, none⟩ = some (.int .i64 b1) ∧ W.cell? ⟨B, 2, none⟩ = some (.int .i64 c1) ∧ W.cell? ⟨B, 3, none⟩ = some (.int .i64 d1)) ∧
  (W.cell? ⟨B + 1, 0, none⟩ = some (.int .i64 a2) ∧ W.cell? ⟨B + 1, 1, none⟩ = some (.int .i64 b2) ∧ W.cell? ⟨B + 1, 2, none⟩ = some (.int .i64 c2) ∧ W.cell? ⟨B + 1, 3, none⟩ = some (.int .i64 d2))

theorem Both.next {W w3 : World} {B : Nat} {a1 b1 c1 d1 a2 b2 c2 d2 : Int} (hg : Grown W w3) (h : Both W B a1 b1 c1 d1 a2 b2 c2 d2) : Both w3 B a1 b1 c1 d1 a2 b2 c2 d2 := by
  obtain ⟨⟨hB, x0, x1, x2, x3⟩, y0, y1, y2, y3⟩ := h
  have hc := gcell hg
  have hs := hg.2.2
  refine ⟨⟨by omega, ?_, ?_, ?_, ?_⟩, ?_, ?_, ?_, ?_⟩
  all_goals (rw [hc _ _ (by omega)]; assumption)

set_option maxHeartbeats 1000000 in
theorem walk_first (a1 b1 c1 d1 a2 b2 c2 d2 : Int) (w : World) (h : ¬ valid a1 b1 c1 d1) :
    Calls Try.prog 3 #[.int .i64 a1, .int .i64 b1, .int .i64 c1, .int .i64 d1, .int .i64 a2, .int .i64 b2, .int .i64 c2, .int .i64 d2] w fun e w' => e = .returned (.bool true) ∧ Grown w w' := by
  have hV : Hid (¬ valid a1 b1 c1 d1) := h
  clear h
  go_enter Try.func3, Try.ntmps3
  go_wp2_with (go_at_call 7; refine (val_no _ _ _ _ _ hV.out).mono ?_; rintro e w' ⟨⟨x, rfl⟩, hg⟩)
  go_ret
  exact ⟨rfl, by repeat (first | exact Grown.refl _ | assumption | apply Grown.alloc | refine Grown.trans ?_ (by assumption))⟩

set_option maxHeartbeats 1000000 in
theorem walk_second (a1 b1 c1 d1 a2 b2 c2 d2 : Int) (w : World) (h : valid a1 b1 c1 d1) (h' : ¬ valid a2 b2 c2 d2) :
    Calls Try.prog 3 #[.int .i64 a1, .int .i64 b1, .int .i64 c1, .int .i64 d1, .int .i64 a2, .int .i64 b2, .int .i64 c2, .int .i64 d2] w fun e w' => e = .returned (.bool true) ∧ Grown w w' := by
  have hV : Hid (valid a1 b1 c1 d1) := h
  have hV' : Hid (¬ valid a2 b2 c2 d2) := h'
  clear h h'
  go_enter Try.func3, Try.ntmps3
  go_wp2_with fail
  refine (val_yes _ _ _ _ _ hV.out).mono ?_
  rintro e w1 ⟨rfl, hg1⟩
  have hc1 := gcell hg1
  have hz1 : w.heap.size + 1 < w1.heap.size := by have := hg1.2.2; simp at this; omega
  have G1 := Grown.trans (((Grown.refl w).alloc _ _).alloc _ _) hg1
  clear hg1
  go_wp2_with fail
  refine (val_no _ _ _ _ _ hV'.out).mono ?_
  rintro e w2 ⟨⟨x, rfl⟩, hg2⟩
  have G2 := Grown.trans G1 hg2
  go_wp2
  go_ret
  exact ⟨rfl, G2⟩

theorem Both.first {w w1 : World} {a1 b1 c1 d1 a2 b2 c2 d2 : Int}
    (hg : Grown ((w.alloc (.cells #[.int .i64 a1, .int .i64 b1, .int .i64 c1, .int .i64 d1] 23)).alloc (.cells #[.int .i64 a2, .int .i64 b2, .int .i64 c2, .int .i64 d2] 23)) w1) :
    Both w1 w.heap.size a1 b1 c1 d1 a2 b2 c2 d2 := by
  refine Both.next hg ⟨⟨by simp, ?_, ?_, ?_, ?_⟩, ?_, ?_, ?_, ?_⟩
  all_goals simp

set_option maxHeartbeats 1000000 in
theorem walk_both1 (a1 b1 c1 d1 a2 b2 c2 d2 : Int) (w : World) (h : valid a1 b1 c1 d1) (h' : valid a2 b2 c2 d2) (k1 : a1 < a2) :
    Calls Try.prog 3 #[.int .i64 a1, .int .i64 b1, .int .i64 c1, .int .i64 d1, .int .i64 a2, .int .i64 b2, .int .i64 c2, .int .i64 d2] w fun e w' => e = .returned (.bool true) ∧ Grown w w' := by
  have hV : Hid (valid a1 b1 c1 d1) := h
  have hV' : Hid (valid a2 b2 c2 d2) := h'
  clear h h'
  go_enter Try.func3, Try.ntmps3
  go_wp2_with fail
  refine (val_yes _ _ _ _ _ hV.out).mono ?_
  rintro e w1 ⟨rfl, hg1⟩
  have hc1 := gcell hg1
  have hz1 : w.heap.size + 1 < w1.heap.size := by have := hg1.2.2; simp at this; omega
  have C1 := Both.first hg1
  have G1 := Grown.trans (((Grown.refl w).alloc _ _).alloc _ _) hg1
  clear hg1
  go_wp2_with fail
  refine (val_yes _ _ _ _ _ hV'.out).mono ?_
  rintro e w2 ⟨rfl, hg2⟩
  have G2 := Grown.trans G1 hg2
  clear C1 hc1 hg2 G1 hz1
  go_wp2
  go_ret
  exact ⟨rfl, G2⟩

set_option maxHeartbeats 1000000 in
theorem walk_both2 (a1 b1 c1 d1 a2 b2 c2 d2 : Int) (w : World) (h : valid a1 b1 c1 d1) (h' : valid a2 b2 c2 d2) (k1 : ¬ a1 < a2) (k2 : b2 < b1) :
    Calls Try.prog 3 #[.int .i64 a1, .int .i64 b1, .int .i64 c1, .int .i64 d1, .int .i64 a2, .int .i64 b2, .int .i64 c2, .int .i64 d2] w fun e w' => e = .returned (.bool true) ∧ Grown w w' := by
  have hV : Hid (valid a1 b1 c1 d1) := h
  have hV' : Hid (valid a2 b2 c2 d2) := h'
  clear h h'
  go_enter Try.func3, Try.ntmps3
  go_wp2_with fail
  refine (val_yes _ _ _ _ _ hV.out).mono ?_
  rintro e w1 ⟨rfl, hg1⟩
  have hc1 := gcell hg1
  have hz1 : w.heap.size + 1 < w1.heap.size := by have := hg1.2.2; simp at this; omega
  have C1 := Both.first hg1
  have G1 := Grown.trans (((Grown.refl w).alloc _ _).alloc _ _) hg1
  clear hg1
  go_wp2_with fail
  refine (val_yes _ _ _ _ _ hV'.out).mono ?_
  rintro e w2 ⟨rfl, hg2⟩
  have G2 := Grown.trans G1 hg2
  clear C1 hc1 hg2 G1 hz1
  go_wp2
  go_ret
  exact ⟨rfl, G2⟩

set_option maxHeartbeats 1000000 in
theorem walk_both3 (a1 b1 c1 d1 a2 b2 c2 d2 : Int) (w : World) (h : valid a1 b1 c1 d1) (h' : valid a2 b2 c2 d2) (k1 : ¬ a1 < a2) (k2 : ¬ b2 < b1) (k3 : c2 < c1) :
    Calls Try.prog 3 #[.int .i64 a1, .int .i64 b1, .int .i64 c1, .int .i64 d1, .int .i64 a2, .int .i64 b2, .int .i64 c2, .int .i64 d2] w fun e w' => e = .returned (.bool true) ∧ Grown w w' := by
  have hV : Hid (valid a1 b1 c1 d1) := h
  have hV' : Hid (valid a2 b2 c2 d2) := h'
  clear h h'
  go_enter Try.func3, Try.ntmps3
  go_wp2_with fail
  refine (val_yes _ _ _ _ _ hV.out).mono ?_
  rintro e w1 ⟨rfl, hg1⟩
  have hc1 := gcell hg1
  have hz1 : w.heap.size + 1 < w1.heap.size := by have := hg1.2.2; simp at this; omega
  have C1 := Both.first hg1
  have G1 := Grown.trans (((Grown.refl w).alloc _ _).alloc _ _) hg1
  clear hg1
  go_wp2_with fail
  refine (val_yes _ _ _ _ _ hV'.out).mono ?_
  rintro e w2 ⟨rfl, hg2⟩
  have G2 := Grown.trans G1 hg2
  clear C1 hc1 hg2 G1 hz1
  go_wp2
  go_ret
  exact ⟨rfl, G2⟩

set_option maxHeartbeats 1000000 in
theorem walk_both4 (a1 b1 c1 d1 a2 b2 c2 d2 : Int) (w : World) (h : valid a1 b1 c1 d1) (h' : valid a2 b2 c2 d2) (k1 : ¬ a1 < a2) (k2 : ¬ b2 < b1) (k3 : ¬ c2 < c1) (p1 : 1 ≤ a1) (p5 : 1 ≤ c1) (q1 : 1 ≤ a2) (q5 : 1 ≤ c2) (hm : c1 ≤ 9223372036854775807) (hm' : c2 ≤ 9223372036854775807) (hle : br a1 b1 c1 ≤ br a2 b2 c2) :
    Calls Try.prog 3 #[.int .i64 a1, .int .i64 b1, .int .i64 c1, .int .i64 d1, .int .i64 a2, .int .i64 b2, .int .i64 c2, .int .i64 d2] w fun e w' => e = .returned (.bool true) ∧ Grown w w' := by
  have hV : Hid (valid a1 b1 c1 d1) := h
  have hV' : Hid (valid a2 b2 c2 d2) := h'
  clear h h'
  go_enter Try.func3, Try.ntmps3
  go_wp2_with fail
  refine (val_yes _ _ _ _ _ hV.out).mono ?_
  rintro e w1 ⟨rfl, hg1⟩
  have hc1 := gcell hg1
  have hz1 : w.heap.size + 1 < w1.heap.size := by have := hg1.2.2; simp at this; omega
  have C1 := Both.first hg1
  have G1 := Grown.trans (((Grown.refl w).alloc _ _).alloc _ _) hg1
  clear hg1
  go_wp2_with fail
  refine (val_yes _ _ _ _ _ hV'.out).mono ?_
  rintro e w2 ⟨rfl, hg2⟩
  have G2 := Grown.trans G1 hg2
  have C2 := Both.next hg2 C1
  have D2 : Both w2.drew w.heap.size a1 b1 c1 d1 a2 b2 c2 d2 := C2
  obtain ⟨⟨_, x0, x1, x2, x3⟩, y0, y1, y2, y3⟩ := C2
  clear hg2 hc1 C1 G1 hz1
  go_wp2_with fail
  go_region_with (go_at_call 8; refine (zB_any _ _ _ _ _ (by assumption) (by assumption) (by assumption)).mono ?_; rintro e w3 ⟨rfl, hg3⟩; have hB3 := Both.next hg3 (by assumption); have hB4 := hB3; obtain ⟨⟨_, u0, u1, u2, u3⟩, v0, v1, v2, v3⟩ := hB4)
  all_goals
    go_wp2
    go_ret
    refine ⟨by first | rfl | simp [Act.put], ?_⟩
    repeat (first | exact Grown.refl _ | assumption | refine Grown.trans ?_ (by assumption) | apply Grown.drew)

theorem walk_both (a1 b1 c1 d1 a2 b2 c2 d2 : Int) (w : World) (h : valid a1 b1 c1 d1) (h' : valid a2 b2 c2 d2) (hm : c1 ≤ 9223372036854775807) (hm' : c2 ≤ 9223372036854775807) :
    Calls Try.prog 3 #[.int .i64 a1, .int .i64 b1, .int .i64 c1, .int .i64 d1, .int .i64 a2, .int .i64 b2, .int .i64 c2, .int .i64 d2] w fun e w' => e = .returned (.bool true) ∧ Grown w w' := by
  by_cases k1 : a1 < a2
  · exact walk_both1 _ _ _ _ _ _ _ _ w h h' k1
  by_cases k2 : b2 < b1
  · exact walk_both2 _ _ _ _ _ _ _ _ w h h' k1 k2
  by_cases k3 : c2 < c1
  · exact walk_both3 _ _ _ _ _ _ _ _ w h h' k1 k2 k3
  · have h0 := h
    have h0' := h'
    obtain ⟨⟨p1, p2⟩, ⟨p3, p4⟩, p5, p7⟩ := h0
    obtain ⟨⟨q1, q2⟩, ⟨q3, q4⟩, q5, q7⟩ := h0'
    exact walk_both4 _ _ _ _ _ _ _ _ w h h' k1 k2 k3 p1 p5 q1 q5 hm hm' (br_mono a1 b1 c1 a2 b2 c2 q1 (by omega) q3 (by omega) p5 (by omega))

theorem walk (a1 b1 c1 d1 a2 b2 c2 d2 : Int) (w : World) (hm : c1 ≤ 9223372036854775807) (hm' : c2 ≤ 9223372036854775807) :
    Calls Try.prog 3 #[.int .i64 a1, .int .i64 b1, .int .i64 c1, .int .i64 d1, .int .i64 a2, .int .i64 b2, .int .i64 c2, .int .i64 d2] w fun e w' => e = .returned (.bool true) ∧ Grown w w' := by
  by_cases h : valid a1 b1 c1 d1
  · by_cases h' : valid a2 b2 c2 d2
    · exact walk_both a1 b1 c1 d1 a2 b2 c2 d2 w h h' hm hm'
    · exact walk_second a1 b1 c1 d1 a2 b2 c2 d2 w h h'
  · exact walk_first a1 b1 c1 d1 a2 b2 c2 d2 w h

end Go.Proofs.Qxb6003693a.Grows
