/-
  The walk of FnCheckRangeWidenAndEnds (5).
-/
import Derived.Test.Qxb6003693aWalks
namespace Go.Proofs.Qxb6003693a.Widen
open Go.ChangeShapes Go.WideShapes Go.ChangeAt Go.RowKit Go.Proofs.Qxb6003693a.Parts

set_option maxHeartbeats 4000000 in
theorem walk (a0 a1 a2 a3 a4 : Int) (w : World) :
    Calls Try.prog 5 #[.int .i64 a0, .int .i64 a1, .int .i64 a2, .int .i64 a3, .int .i64 a4] w fun e w' => e = .returned (.bool true) ∧ Grown w w' := by
  by_cases hA : a1 ≤ a0 ∧ (a2 = 0 ∨ a0 ≤ a2) <;> by_cases hz : a2 = 0 <;> by_cases hlh : a1 ≤ a2 <;> by_cases hw1 : a3 ≤ a1 <;> by_cases hw2 : a4 = 0 <;> by_cases hw3 : a2 ≤ a4
  all_goals try (exfalso; omega)
  all_goals
    go_enter Try.func5, Try.ntmps5
    go_wp2_with (go_at_call 10; first | (refine (zz_yes _ _ _ _ _ (by omega)).mono ?_; rintro e w' ⟨rfl, hg⟩) | (refine (zz_no _ _ _ _ _ (by omega)).mono ?_; rintro e w' ⟨⟨x, rfl⟩, hg⟩))
  all_goals
    go_ret
    exact ⟨rfl, by repeat (first | exact Grown.refl _ | assumption | refine Grown.trans ?_ (by assumption))⟩

end Go.Proofs.Qxb6003693a.Widen
