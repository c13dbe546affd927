/-
  The walks of the tests on one byte: isDigit (49), isLetter (50), and the law's own (40, 41, 15).
-/
import Derived.Test.Qxb6003698aRows
import Derived.WalkKit
import Derived.Outline
namespace Go.Proofs.Qxb6003698a.Bytes
open Go.RowKit

def digB (c : Int) : Bool := decide (48 ≤ c ∧ c ≤ 57)
def letB (c : Int) : Bool := decide ((97 ≤ c ∧ c ≤ 122) ∨ (65 ≤ c ∧ c ≤ 90))
def idB (c : Int) : Bool := digB c || letB c || c == 95 || c == 45

theorem ret_bool {a b : Bool} (h : a = b) : Ending.returned (.bool a) = .returned (.bool b) := by rw [h]

set_option maxHeartbeats 400000 in
theorem dig49 (c : Int) (w : World) : Calls Try.prog 49 #[.int .u8 c] w fun e w' => e = .returned (.bool (digB c)) ∧ w' = w := by
  by_cases h1 : 48 ≤ c <;> by_cases h2 : c ≤ 57
  all_goals
    go_enter Try.func49, Try.ntmps49
    go_wp2
    go_ret
    exact ⟨ret_bool (by rw [Bool.eq_iff_iff]; simp [digB]; try omega), rfl⟩
set_option maxHeartbeats 400000 in
theorem dig40 (c : Int) (w : World) : Calls Try.prog 40 #[.int .u8 c] w fun e w' => e = .returned (.bool (digB c)) ∧ w' = w := by
  by_cases h1 : 48 ≤ c <;> by_cases h2 : c ≤ 57
  all_goals
    go_enter Try.func40, Try.ntmps40
    go_wp2
    go_ret
    exact ⟨ret_bool (by rw [Bool.eq_iff_iff]; simp [digB]; try omega), rfl⟩
set_option maxHeartbeats 800000 in
theorem let50 (c : Int) (w : World) : Calls Try.prog 50 #[.int .u8 c] w fun e w' => e = .returned (.bool (letB c)) ∧ w' = w := by
  rcases (show c < 65 ∨ (65 ≤ c ∧ c ≤ 90) ∨ (90 < c ∧ c < 97) ∨ (97 ≤ c ∧ c ≤ 122) ∨ 122 < c by omega) with h | h | h | h | h
  all_goals
    go_enter Try.func50, Try.ntmps50
    go_wp2
    go_ret
    exact ⟨ret_bool (by rw [Bool.eq_iff_iff]; simp [letB]; try omega), rfl⟩
set_option maxHeartbeats 800000 in
theorem let41 (c : Int) (w : World) : Calls Try.prog 41 #[.int .u8 c] w fun e w' => e = .returned (.bool (letB c)) ∧ w' = w := by
  rcases (show c < 65 ∨ (65 ≤ c ∧ c ≤ 90) ∨ (90 < c ∧ c < 97) ∨ (97 ≤ c ∧ c ≤ 122) ∨ 122 < c by omega) with h | h | h | h | h
  all_goals
    go_enter Try.func41, Try.ntmps41
    go_wp2
    go_ret
    exact ⟨ret_bool (by rw [Bool.eq_iff_iff]; simp [letB]; try omega), rfl⟩
set_option maxHeartbeats 800000 in
theorem id15 (c : Int) (w : World) : Calls Try.prog 15 #[.int .u8 c] w fun e w' => e = .returned (.bool (idB c)) ∧ w' = w := by
  cases h1 : digB c <;> cases h2 : letB c
  all_goals
    go_enter Try.func15, Try.ntmps15
    go_wp2_with (first | (go_at_call 40; refine (dig40 _ _).mono ?_; rintro e w' ⟨rfl, rfl⟩) | (go_at_call 41; refine (let41 _ _).mono ?_; rintro e w' ⟨rfl, rfl⟩))
    all_goals
      go_ret
      exact ⟨ret_bool (by rw [Bool.eq_iff_iff]; simp [idB, h1, h2]; try omega), rfl⟩

end Go.Proofs.Qxb6003698a.Bytes
