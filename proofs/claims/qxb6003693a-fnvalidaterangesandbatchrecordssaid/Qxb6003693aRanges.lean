/-
  The walk of FnValidateRangesAndBatchRecords (6).
-/
import Derived.Test.Qxb6003693aValid
namespace Go.Proofs.Qxb6003693a.Ranges
open Go.ChangeShapes Go.WideShapes Go.ChangeAt Go.RowKit Go.Proofs.Qxb6003693a.Parts

set_option maxHeartbeats 1000000 in
theorem walk_no (rs win bt rc : Int) (w : World) (h : ¬ valid rs win bt rc) :
    Calls Try.prog 6 #[.int .i64 rs, .int .i64 win, .int .i64 bt, .int .i64 rc] w fun e w' => e = .returned (.bool true) ∧ Grown w w' := by
  have hV : Hid (¬ valid rs win bt rc) := h
  have hP : rs < 1 ∨ (1 ≤ rs ∧ 1048576 < rs) ∨ (1 ≤ rs ∧ rs ≤ 1048576 ∧ win < 1) ∨ (1 ≤ rs ∧ rs ≤ 1048576 ∧ 1 ≤ win ∧ 1048576 < win) ∨ (1 ≤ rs ∧ rs ≤ 1048576 ∧ 1 ≤ win ∧ win ≤ 1048576 ∧ bt < 1) ∨ (1 ≤ rs ∧ rs ≤ 1048576 ∧ 1 ≤ win ∧ win ≤ 1048576 ∧ 1 ≤ bt ∧ rc < 0) := by
    unfold valid at h; omega
  clear h
  rcases hP with h | ⟨h1, h⟩ | ⟨h1, h2, h⟩ | ⟨h1, h2, h3, h⟩ | ⟨h1, h2, h3, h4, h⟩ | ⟨h1, h2, h3, h4, h5, h⟩
  all_goals
    go_enter Try.func6, Try.ntmps6
    go_wp2_with (go_at_call 7; refine (val_no _ _ _ _ _ hV.out).mono ?_; rintro e w' ⟨⟨x, rfl⟩, hg⟩)
    go_ret
    exact ⟨rfl, Grown.trans ((Grown.refl _).alloc _ _) (by assumption)⟩

set_option maxHeartbeats 1000000 in
theorem walk_yes (rs win bt rc : Int) (w : World) (h : valid rs win bt rc) (h6 : bt ≤ 9223372036854775807) :
    Calls Try.prog 6 #[.int .i64 rs, .int .i64 win, .int .i64 bt, .int .i64 rc] w fun e w' => e = .returned (.bool true) ∧ Grown w w' := by
  have hV : Hid (valid rs win bt rc) := h
  obtain ⟨⟨h1, h2⟩, ⟨h3, h4⟩, h5, h7⟩ := h
  have b1 := br_ge rs win bt h3
  have b2 := br_le rs win bt h3
  have b3 := br_fits rs win bt h1
  have b4 := br_most rs win bt h1 h5
  have m1 : 0 ≤ br rs win bt * rs := Int.mul_nonneg (by omega) (by omega)
  have m2 : br rs win bt * rs ≤ 1048576 * 1048576 := Int.mul_le_mul (by omega) h2 (by omega) (by omega)
  have m3 : 0 ≤ (br rs win bt + 1) * rs := Int.mul_nonneg (by omega) (by omega)
  have m4 : (br rs win bt + 1) * rs ≤ 1048577 * 1048576 := Int.mul_le_mul (by omega) h2 (by omega) (by omega)
  have b5 : br rs win bt * rs ≤ bt ∨ br rs win bt * rs = rs := by
    rcases b3 with b | b
    · exact .inl b
    · right; rw [b]; omega
  have m2' : br rs win bt * rs ≤ 1099511627776 := m2
  have m4' : (br rs win bt + 1) * rs ≤ 1099512676352 := m4
  clear m2 m4 b3
  by_cases c1 : bt < rs <;> by_cases c2 : br rs win bt < win
  all_goals
    go_enter Try.func6, Try.ntmps6
    go_wp2_with (first | (go_at_call 7; refine (val_yes _ _ _ _ _ hV.out).mono ?_; rintro e w1 ⟨rfl, hg1⟩; have hc1 := gcell hg1) | (go_at_call 11; refine (zb_any _ _ _ _ _ h1 h5 h6).mono ?_; rintro e w2 ⟨rfl, hg2⟩))
    go_ret
    exact ⟨rfl, by repeat (first | exact Grown.refl _ | assumption | apply Grown.alloc | refine Grown.trans ?_ (by assumption))⟩

theorem walk (rs win bt rc : Int) (w : World) (h6 : bt ≤ 9223372036854775807) :
    Calls Try.prog 6 #[.int .i64 rs, .int .i64 win, .int .i64 bt, .int .i64 rc] w fun e w' => e = .returned (.bool true) ∧ Grown w w' := by
  by_cases h : valid rs win bt rc
  · exact walk_yes rs win bt rc w h h6
  · exact walk_no rs win bt rc w h

end Go.Proofs.Qxb6003693a.Ranges
