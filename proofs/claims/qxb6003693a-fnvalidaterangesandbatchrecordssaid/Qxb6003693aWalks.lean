/-
  The contracts of the functions on the road of seat b6003693a: checkRange (13), ZZcheckRange (10), checkRecordSize (12).
-/
import Derived.Test.Qxb6003693aRows
import Derived.WalkKit
import Derived.ProofKit
import Derived.OpenShut
import Derived.Outline
namespace Go.Proofs.Qxb6003693a.Parts
open Go.ChangeShapes Go.WideShapes Go.ChangeAt Go.RowKit

/-- does checkRange accept v in lo .. hi? -/
def acc (v lo hi : Int) : Prop := lo ≤ v ∧ (hi = 0 ∨ v ≤ hi)

/-- what an error answer is: nil where p holds, else an error that is not nil -/
def Ans (p : Prop) (r : Value) : Prop := (p ∧ r = .nilIface) ∨ (¬ p ∧ ∃ x, r = .iface 35 x)

theorem Grown.trans {a b c : World} (h : Grown a b) (k : Grown b c) : Grown a c :=
  ⟨World.keptBut_trans h.1 k.1, fun x => (k.2.1 x).trans (h.2.1 x), Nat.le_trans h.2.2 k.2.2⟩

set_option maxHeartbeats 400000 in
theorem cr_ok (s : ByteArray) (v lo hi : Int) (w : World) (h1 : lo ≤ v) (h2 : hi = 0 ∨ v ≤ hi) :
    Calls Try.prog 13 #[.string s, .int .i64 v, .int .i64 lo, .int .i64 hi] w fun e w' => e = .returned .nilIface ∧ Grown w w' := by
  rcases h2 with rfl | h2
  · go_enter Try.func13, Try.ntmps13
    go_wp2
    go_ret
    exact ⟨rfl, by repeat (first | exact Grown.refl _ | apply Grown.drew | apply Grown.alloc)⟩
  · go_enter Try.func13, Try.ntmps13
    go_wp2
    all_goals
      go_ret
      exact ⟨rfl, by repeat (first | exact Grown.refl _ | apply Grown.drew | apply Grown.alloc)⟩

set_option maxHeartbeats 400000 in
theorem cr_low (s : ByteArray) (v lo hi : Int) (w : World) (h1 : v < lo) :
    Calls Try.prog 13 #[.string s, .int .i64 v, .int .i64 lo, .int .i64 hi] w fun e w' => (∃ x, e = .returned (.iface 35 x)) ∧ Grown w w' := by
  go_enter Try.func13, Try.ntmps13
  go_wp2
  go_ret
  exact ⟨⟨_, rfl⟩, by repeat (first | exact Grown.refl _ | apply Grown.drew | apply Grown.alloc)⟩

set_option maxHeartbeats 400000 in
theorem cr_high (s : ByteArray) (v lo hi : Int) (w : World) (h1 : lo ≤ v) (h2 : (hi != 0) = true) (h3 : hi < v) :
    Calls Try.prog 13 #[.string s, .int .i64 v, .int .i64 lo, .int .i64 hi] w fun e w' => (∃ x, e = .returned (.iface 35 x)) ∧ Grown w w' := by
  go_enter Try.func13, Try.ntmps13
  go_wp2
  go_ret
  exact ⟨⟨_, rfl⟩, by repeat (first | exact Grown.refl _ | apply Grown.drew | apply Grown.alloc)⟩

/-- checkRange -/
theorem cr_any (s : ByteArray) (v lo hi : Int) (w : World) :
    Calls Try.prog 13 #[.string s, .int .i64 v, .int .i64 lo, .int .i64 hi] w fun e w' => ∃ r, e = .returned r ∧ Ans (acc v lo hi) r ∧ Grown w w' := by
  by_cases h1 : lo ≤ v
  · by_cases h2 : hi = 0 ∨ v ≤ hi
    · exact (cr_ok s v lo hi w h1 h2).mono fun e w' ⟨he, hg⟩ => ⟨_, he, .inl ⟨⟨h1, h2⟩, rfl⟩, hg⟩
    · exact (cr_high s v lo hi w h1 (by rw [bne_iff_ne]; omega) (by omega)).mono fun e w' ⟨⟨x, he⟩, hg⟩ => ⟨_, he, .inr ⟨fun h => h2 h.2, x, rfl⟩, hg⟩
  · exact (cr_low s v lo hi w (by omega)).mono fun e w' ⟨⟨x, he⟩, hg⟩ => ⟨_, he, .inr ⟨fun h => h1 h.1, x, rfl⟩, hg⟩

set_option maxHeartbeats 400000 in
/-- ZZcheckRange -/
theorem zz_any (s : ByteArray) (v lo hi : Int) (w : World) :
    Calls Try.prog 10 #[.string s, .int .i64 v, .int .i64 lo, .int .i64 hi] w fun e w' => ∃ r, e = .returned r ∧ Ans (acc v lo hi) r ∧ Grown w w' := by
  go_enter Try.func10, Try.ntmps10
  go_wp2_with (go_at_call 13; refine (cr_any _ _ _ _ _).mono ?_; rintro e w' ⟨r, rfl, ha, hg⟩)
  go_ret
  exact ⟨_, rfl, ha, hg⟩

set_option maxHeartbeats 400000 in
/-- checkRecordSize -/
theorem rs_any (v : Int) (w : World) :
    Calls Try.prog 12 #[.int .i64 v] w fun e w' => ∃ r, e = .returned r ∧ Ans (acc v 1 1048576) r ∧ Grown w w' := by
  go_enter Try.func12, Try.ntmps12
  go_wp2_with (go_at_call 13; refine (cr_any _ _ _ _ _).mono ?_; rintro e w' ⟨r, rfl, ha, hg⟩)
  go_ret
  exact ⟨_, rfl, ha, hg⟩

/-- ZZcheckRange, its two answers apart -/
theorem zz_yes (s : ByteArray) (v lo hi : Int) (w : World) (h : lo ≤ v ∧ (hi = 0 ∨ v ≤ hi)) :
    Calls Try.prog 10 #[.string s, .int .i64 v, .int .i64 lo, .int .i64 hi] w fun e w' => e = .returned .nilIface ∧ Grown w w' :=
  (zz_any s v lo hi w).mono fun e w' ⟨r, he, ha, hg⟩ => by
    rcases ha with ⟨_, rfl⟩ | ⟨hn, _⟩
    · exact ⟨he, hg⟩
    · exact (hn h).elim
theorem zz_no (s : ByteArray) (v lo hi : Int) (w : World) (h : ¬ (lo ≤ v ∧ (hi = 0 ∨ v ≤ hi))) :
    Calls Try.prog 10 #[.string s, .int .i64 v, .int .i64 lo, .int .i64 hi] w fun e w' => (∃ x, e = .returned (.iface 35 x)) ∧ Grown w w' :=
  (zz_any s v lo hi w).mono fun e w' ⟨r, he, ha, hg⟩ => by
    rcases ha with ⟨hn, _⟩ | ⟨_, x, rfl⟩
    · exact (h hn).elim
    · exact ⟨⟨x, he⟩, hg⟩

end Go.Proofs.Qxb6003693a.Parts
