/-
  The walk of FnCheckRangeConvexNameFree (4), and of the bound on its strings' lengths (9).
-/
import Derived.Test.Qxb6003693aWalks
namespace Go.Proofs.Qxb6003693a.Convex
open Go.ChangeShapes Go.WideShapes Go.ChangeAt Go.RowKit Go.Proofs.Qxb6003693a.Parts

set_option maxHeartbeats 400000 in
theorem bytes_yes (s t : ByteArray) (a b c d e : Int) (w : World) (h : s.size + t.size ≤ 1048576) :
    Calls Try.prog 9 #[.string s, .string t, .int .i64 a, .int .i64 b, .int .i64 c, .int .i64 d, .int .i64 e] w fun e w' => e = .returned (.bool true) ∧ w' = w := by
  have h1 : (s.size : Int) ≤ 1048576 := by omega
  have h2 : (t.size : Int) ≤ 1048576 := by omega
  have h3 : (s.size : Int) + t.size ≤ 1048576 := by omega
  go_enter Try.func9, Try.ntmps9
  go_wp2
  go_ret
  exact ⟨rfl, rfl⟩

set_option maxHeartbeats 400000 in
theorem bytes_no (s t : ByteArray) (a b c d e : Int) (w : World) (h : ¬ s.size + t.size ≤ 1048576) (hs : s.size ≤ maxLen) (ht : t.size ≤ maxLen) :
    Calls Try.prog 9 #[.string s, .string t, .int .i64 a, .int .i64 b, .int .i64 c, .int .i64 d, .int .i64 e] w fun e w' => e = .returned (.bool false) ∧ w' = w := by
  unfold maxLen at hs ht
  by_cases h1 : (1048576 : Int) < s.size
  · go_enter Try.func9, Try.ntmps9
    go_wp2
    go_ret
    exact ⟨rfl, rfl⟩
  · by_cases h2 : (1048576 : Int) < t.size
    · go_enter Try.func9, Try.ntmps9
      go_wp2
      go_ret
      exact ⟨rfl, rfl⟩
    · have h3 : (1048576 : Int) < s.size + t.size := by omega
      go_enter Try.func9, Try.ntmps9
      go_wp2
      go_ret
      exact ⟨rfl, rfl⟩

set_option maxHeartbeats 4000000 in
theorem walk (s t : ByteArray) (a b v lo hi : Int) (w : World) (hs : s.size ≤ maxLen) (ht : t.size ≤ maxLen) :
    Calls Try.prog 4 #[.string s, .string t, .int .i64 a, .int .i64 b, .int .i64 v, .int .i64 lo, .int .i64 hi] w fun e w' => e = .returned (.bool true) ∧ Grown w w' := by
  by_cases h : s.size + t.size ≤ 1048576
  · have h1 : (s.size : Int) ≤ 1048576 := by omega
    have h2 : (t.size : Int) ≤ 1048576 := by omega
    have h3 : (s.size : Int) + t.size ≤ 1048576 := by omega
    by_cases hA : lo ≤ a ∧ (hi = 0 ∨ a ≤ hi) <;> by_cases hB : lo ≤ b ∧ (hi = 0 ∨ b ≤ hi) <;> by_cases hV : lo ≤ v ∧ (hi = 0 ∨ v ≤ hi) <;> by_cases hz : hi = 0
    all_goals
      go_enter Try.func4, Try.ntmps4
      go_wp2_with (first | (go_at_call 9; refine (bytes_yes _ _ _ _ _ _ _ _ (by omega)).mono ?_; rintro e w' ⟨rfl, rfl⟩) | (go_at_call 10; first | (refine (zz_yes _ _ _ _ _ (by omega)).mono ?_; rintro e w' ⟨rfl, hg⟩) | (refine (zz_no _ _ _ _ _ (by omega)).mono ?_; rintro e w' ⟨⟨x, rfl⟩, hg⟩)))
    all_goals
      go_ret
      exact ⟨rfl, by repeat (first | exact Grown.refl _ | assumption | refine Grown.trans ?_ (by assumption))⟩
  · go_enter Try.func4, Try.ntmps4
    go_wp2_with (go_at_call 9; refine (bytes_no _ _ _ _ _ _ _ _ h hs ht).mono ?_; rintro e w' ⟨rfl, rfl⟩)
    go_ret
    exact ⟨rfl, Grown.refl _⟩

end Go.Proofs.Qxb6003693a.Convex
