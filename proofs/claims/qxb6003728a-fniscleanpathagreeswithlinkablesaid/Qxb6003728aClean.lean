/-
  The walks of isCleanPath (19), linkable (20), their shims (8, 11), the bound on the length (10) and the law FnIsCleanPathAgreesWithLinkable (4).
-/
import Derived.Test.Qxb6003728aRows
import Derived.Test.Qxb6003728aShelf
import Derived.Test.Qxb6003728aCleanLaw
import Derived.Lib.CleanLen
import Derived.WalkKit
import Derived.ProofKit
import Derived.Outline
import Derived.WalkSpells
namespace Go.Proofs.Qxb6003728a.Clean
open Go.ChangeShapes Go.WideShapes Go.ChangeAt Go.RowKit Go.Proofs.Qxb6003728a.CleanLaw

theorem ret_bool {a b : Bool} (h : a = b) : Ending.returned (.bool a) = .returned (.bool b) := by rw [h]

set_option maxHeartbeats 400000 in
theorem link_any (s : ByteArray) (w : World) :
    Calls Try.prog 20 #[.string s] w fun e w' => e = .returned (.bool (link s.data.toList)) ∧ w' = w := by
  go_enter Try.func20, Try.ntmps20
  go_wp2
  · go_ret
    have h : s.toList = [46] := by assumption
    rw [Lib.toList_data] at h
    exact ⟨ret_bool (by simp [link, h]), rfl⟩
  · go_ret
    exact ⟨ret_bool (by rw [Lib.toList_data]; rfl), rfl⟩

set_option maxHeartbeats 400000 in
theorem zlink_any (s : ByteArray) (w : World) :
    Calls Try.prog 11 #[.string s] w fun e w' => e = .returned (.bool (link s.data.toList)) ∧ w' = w := by
  go_enter Try.func11, Try.ntmps11
  go_wp2_with (go_at_call 20; refine (link_any _ _).mono ?_; rintro e w' ⟨rfl, rfl⟩)
  go_ret
  exact ⟨rfl, rfl⟩

set_option maxHeartbeats 400000 in
theorem isC_any (s : ByteArray) (w : World) (hs : s.size ≤ 1048600) :
    Calls Try.prog 19 #[.string s] w fun e w' => e = .returned (.bool (isC s.data.toList)) ∧ Below w.heap.size w w' := by
  have hlen := Lib.Pa.clean_length_le_succ s.data.toList
  rw [← Lib.size_eq] at hlen
  have hlen' : (Lib.Pa.clean s.data.toList).length ≤ 1048601 := by omega
  clear hlen
  go_enter Try.func19, Try.ntmps19
  go_wp2_with (first | (go_at_call 22; refine (Try.path_Clean _ _ (by omega)).mono ?_; rintro e w' ⟨rfl, hb⟩) | (go_at_call 23; refine (Try.strings_HasSuffix _ _ _ (by omega)).mono ?_; rintro e w' ⟨rfl, rfl⟩))
  · go_ret
    have h1 : Lib.hasSuffix s.data.toList [47] = true := by assumption
    have h2 : (!Lib.Pa.clean s.data.toList == [47]) = true := by assumption
    exact ⟨ret_bool (by simp only [Lib.toList_data, isC, h1, bne, h2, Bool.and_self, if_true]; simp), by assumption⟩
  · go_ret
    have h1 : Lib.hasSuffix s.data.toList [47] = true := by assumption
    have h2 : (!Lib.Pa.clean s.data.toList == [47]) = false := by assumption
    exact ⟨ret_bool (by simp only [Lib.toList_data, isC, h1, bne, h2, Bool.and_false, if_false, Bool.false_eq_true]), by assumption⟩
  · go_ret
    have h1 : ¬ Lib.hasSuffix s.data.toList [47] = true := by assumption
    exact ⟨ret_bool (by simp only [Lib.toList_data, isC, h1, Bool.false_and, if_false, Bool.false_eq_true]), by assumption⟩

set_option maxHeartbeats 400000 in
theorem zisC_any (s : ByteArray) (w : World) (hs : s.size ≤ 1048600) :
    Calls Try.prog 8 #[.string s] w fun e w' => e = .returned (.bool (isC s.data.toList)) ∧ Below w.heap.size w w' := by
  go_enter Try.func8, Try.ntmps8
  go_wp2_with (go_at_call 19; refine (isC_any _ _ (by omega)).mono ?_; rintro e w' ⟨rfl, hb⟩)
  go_ret
  exact ⟨rfl, by assumption⟩

set_option maxHeartbeats 400000 in
theorem bytes_yes (s : ByteArray) (w : World) (h : s.size ≤ 1048576) :
    Calls Try.prog 10 #[.string s] w fun e w' => e = .returned (.bool true) ∧ w' = w := by
  have h1 : (s.size : Int) ≤ 1048576 := by omega
  go_enter Try.func10, Try.ntmps10
  go_wp2
  go_ret
  exact ⟨rfl, rfl⟩

set_option maxHeartbeats 400000 in
theorem bytes_no (s : ByteArray) (w : World) (h : ¬ s.size ≤ 1048576) :
    Calls Try.prog 10 #[.string s] w fun e w' => e = .returned (.bool false) ∧ w' = w := by
  have h1 : (1048576 : Int) < s.size := by omega
  go_enter Try.func10, Try.ntmps10
  go_wp2
  go_ret
  exact ⟨rfl, rfl⟩

theorem hide {p : Prop} (h : p) : Hid p := h

/-- no slash among the first k bytes -/
def NoSlash (s : ByteArray) (k : Nat) : Prop := ∀ j, j < k → s.data.toList[j]? ≠ some 47

theorem NoSlash.step {s : ByteArray} {k : Nat} (h : NoSlash s k) (hk : k < s.size) (hc : ((s[k].toNat : Int) == 47) = false) : NoSlash s (k + 1) := by
  intro j hj
  rcases Nat.lt_or_ge j k with hlt | hge
  · exact h j hlt
  · have e : j = k := by omega
    subst e
    have e2 : s.data.toList[j]? = some s[j] := by
      rw [List.getElem?_eq_getElem (by simpa using hk)]; rfl
    rw [e2]
    intro e3
    have e4 : s[j] = 47 := by simpa using e3
    rw [e4] at hc
    simp at hc

theorem NoSlash.all {s : ByteArray} (h : NoSlash s s.size) : ∀ c ∈ s.data.toList, c ≠ 47 := by
  intro c hc e
  subst e
  obtain ⟨j, hj, hje⟩ := List.getElem_of_mem hc
  exact h j (by simpa using hj) (by rw [List.getElem?_eq_getElem hj, hje])

theorem z_one (s : ByteArray) (w : World) (hs : s.size ≤ 1048576) (hne : s.data.toList ≠ []) (hall : NoSlash s s.size) :
    Calls Try.prog 8 #[.string ({ data := #[47] } ++ s)] w fun e w' => e = .returned (.bool (link s.data.toList)) ∧ Below w.heap.size w w' := by
  have e : (({ data := #[47] } ++ s : ByteArray)).data.toList = 47 :: s.data.toList := by simp
  have hz : (({ data := #[47] } ++ s : ByteArray)).size ≤ 1048600 := by rw [Lib.size_eq, e, List.length_cons, ← Lib.size_eq]; omega
  have h := zisC_any _ w hz
  rw [e, law_one s.data.toList hne hall.all] at h
  exact h

theorem z_two (s : ByteArray) (w : World) (hs : s.size ≤ 1048576) (hne : s.data.toList ≠ []) (hall : NoSlash s s.size) :
    Calls Try.prog 8 #[.string ({ data := #[47] } ++ s ++ { data := #[47] })] w fun e w' => e = .returned (.bool (link s.data.toList)) ∧ Below w.heap.size w w' := by
  have e : (({ data := #[47] } ++ s ++ { data := #[47] } : ByteArray)).data.toList = 47 :: (s.data.toList ++ [47]) := by simp
  have hz : (({ data := #[47] } ++ s ++ { data := #[47] } : ByteArray)).size ≤ 1048600 := by
    rw [Lib.size_eq, e, List.length_cons, List.length_append, ← Lib.size_eq]; simp; omega
  have h := zisC_any _ w hz
  rw [e, law_two s.data.toList hne hall.all] at h
  exact h

set_option maxHeartbeats 1000000 in
theorem walk (s : ByteArray) (w : World) : Calls Try.prog 4 #[.string s] w fun e w' => e = .returned (.bool true) ∧ Below w.heap.size w w' := by
  by_cases hs : s.size ≤ 1048576
  · have hsi : (s.size : Int) ≤ 1048576 := by omega
    have hd : decide ((1048576 : Int) < (s.size : Int)) = false := by simp; omega
    by_cases he : s.toList.isEmpty = true
    · go_enter Try.func4, Try.ntmps4
      go_wp2_with (go_at_call 10; refine (bytes_yes _ _ hs).mono ?_; rintro e w' ⟨rfl, rfl⟩)
      go_ret
      exact ⟨rfl, Below.refl _ _⟩
    · have hne : s.data.toList ≠ [] := by
        intro k; apply he; rw [Lib.toList_data, k]; rfl
      have HN : Hid (s.data.toList ≠ []) := hne
      clear hne
      rw [Bool.not_eq_true] at he
      go_enter Try.func4, Try.ntmps4
      go_wp2_with (go_at_call 10; refine (bytes_yes _ _ hs).mono ?_; rintro e w' ⟨rfl, rfl⟩)
      go_loop [3] (fun i => ∃ k : Nat, k ≤ s.size ∧ i = .int .i64 k ∧ NoSlash s k) (fun i => s.size - (intOf i).toNat)
      case atStart => exact ⟨0, Nat.zero_le _, rfl, fun j hj => absurd hj (by omega)⟩
      case round =>
        obtain ⟨k, hk, rfl, hns⟩ := hrel
        by_cases hlt : k < s.size
        · by_cases hc : ((s[k].toNat : Int) == 47) = true
          · go_wp2
            go_ret
            exact ⟨rfl, Below.refl _ _⟩
          · rw [Bool.not_eq_true] at hc
            have hns' := hns.step hlt hc
            go_wp2
            go_round
            case rel => exact ⟨k + 1, by omega, by go_num, hns'⟩
            case measure => simp [intOf]; omega
        · have hall : NoSlash s s.size := by
            have e : k = s.size := by omega
            exact e ▸ hns
          have HA := hide hall
          clear hns hall
          go_wp2_with (go_at_call 11; refine (zlink_any _ _).mono ?_; rintro e w' ⟨rfl, rfl⟩)
          refine (z_one s _ hs HN.out HA.out).mono ?_
          rintro e w1 ⟨rfl, hb1⟩
          go_wp2_with fail
          refine (z_two s _ hs HN.out HA.out).mono ?_
          rintro e w2 ⟨rfl, hb2⟩
          go_wp2
          go_ret
          exact ⟨rfl, hb1.trans (hb2.mono hb1.size)⟩
  · go_enter Try.func4, Try.ntmps4
    go_wp2_with (go_at_call 10; refine (bytes_no _ _ hs).mono ?_; rintro e w' ⟨rfl, rfl⟩)
    go_ret
    exact ⟨rfl, Below.refl _ _⟩

end Go.Proofs.Qxb6003728a.Clean
