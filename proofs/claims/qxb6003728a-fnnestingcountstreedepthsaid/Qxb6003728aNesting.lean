/-
  The walks of nesting (21), ZZNesting (18), zzJqWeight (17) and of the bound on the lengths (13).
-/
import Derived.Test.Qxb6003728aNestLaw
import Derived.Test.Qxb6003728aClone
namespace Go.Proofs.Qxb6003728a.Nesting
open Go.RowKit Go.Proofs.Qxb6003728a.NestLaw
open Go.Proofs.Qxb6003728a.Clone (Src hide)

theorem ret_int {k : IntKind} {a b : Int} (h : a = b) : Ending.returned (.int k a) = .returned (.int k b) := by rw [h]

set_option maxHeartbeats 400000 in
theorem nesting_empty (a : Option Addr) (cap : Nat) (w : World) : Calls Try.prog 21 #[.slice a 0 cap] w fun e w' => e = .returned (.int .i64 0) ∧ w' = w := by
  go_enter Try.func21, Try.ntmps21
  go_wp2
  refine wp_loop_rounds 1 ?_
  rw [rounds_succ]
  go_wp2
  go_ret
  exact ⟨rfl, rfl⟩

set_option maxRecDepth 100000 in
set_option maxHeartbeats 4000000 in
theorem nesting_some (b off cap : Nat) (zs : List Int) (w : World) (hc : ∀ i, i < zs.length → w.cell? ⟨b, off + i, none⟩ = some (.int .u8 (zs.getD i 0))) (hm : zs.length ≤ 1000000) :
    Calls Try.prog 21 #[.slice (some ⟨b, off, none⟩) zs.length cap] w fun e w' => e = .returned (.int .i64 (nest zs 0 0 false)) ∧ w' = w := by
  have HC := hide hc
  clear hc
  go_enter Try.func21, Try.ntmps21
  go_wp2
  go_loop [3, 4, 5, 6] (fun d p s i => ∃ (k : Nat) (dd pp : Int) (bb : Bool), k ≤ zs.length + 1 ∧ i = .int .i64 k ∧ d = .int .i64 dd ∧ p = .int .i64 pp ∧ s = .bool bb ∧ (-(2 * (k : Int)) ≤ pp ∧ pp ≤ 2 * k) ∧ (0 ≤ dd ∧ dd ≤ 2 * k + 1) ∧ nest (zs.drop k) dd pp bb = nest zs 0 0 false) (fun _ _ _ i => zs.length + 2 - (intOf i).toNat)
  case atStart => exact ⟨0, 0, 0, false, by omega, rfl, rfl, rfl, rfl, by omega, by omega, by simp⟩
  case round =>
    obtain ⟨k, dd, pp, bb, hk, rfl, rfl, rfl, rfl, ⟨p1, p2⟩, ⟨q1, q2⟩, hN⟩ := hrel
    have N := hide hN
    clear hN
    by_cases hlt : k < zs.length
    · obtain ⟨z, hz⟩ : ∃ z, z = zs.getD k 0 := ⟨_, rfl⟩
      have c1 : w.cell? ⟨b, off + k, none⟩ = some (.int .u8 z) := by rw [hz]; exact HC.out k hlt
      have Z := hide hz
      clear hz HC
      cases bb with
      | true =>
        rcases (show z = 92 ∨ z = 34 ∨ (z ≠ 92 ∧ z ≠ 34) by omega) with h | h | ⟨h, h'⟩
        · have e := hide (in_esc dd pp hlt (Z.out.symm.trans h))
          have t1 : (z == 92) = true := beq_iff_eq.2 h
          clear h
          go_wp2
          go_round
          case rel => exact ⟨k + 2, dd, pp, true, by omega, by go_num, rfl, rfl, rfl, by omega, by omega, by rw [← e.out]; exact N.out⟩
          case measure => simp [intOf]; omega
        · have e := hide (in_end dd pp hlt (Z.out.symm.trans h))
          have t1 : (z == 92) = false := beq_eq_false_iff_ne.2 (by omega)
          have t2 : (z == 34) = true := beq_iff_eq.2 h
          clear h
          go_wp2
          go_round
          case rel => exact ⟨k + 1, dd, pp, false, by omega, by go_num, rfl, rfl, rfl, by omega, by omega, by rw [← e.out]; exact N.out⟩
          case measure => simp [intOf]; omega
        · have e := hide (in_other dd pp hlt (by rw [← Z.out]; exact h) (by rw [← Z.out]; exact h'))
          have t1 : (z == 92) = false := beq_eq_false_iff_ne.2 h
          have t2 : (z == 34) = false := beq_eq_false_iff_ne.2 h'
          clear h h'
          go_wp2
          go_round
          case rel => exact ⟨k + 1, dd, pp, true, by omega, by go_num, rfl, rfl, rfl, by omega, by omega, by rw [← e.out]; exact N.out⟩
          case measure => simp [intOf]; omega
      | false =>
        rcases (show z = 34 ∨ z = 91 ∨ z = 123 ∨ z = 93 ∨ z = 125 ∨ (z ≠ 34 ∧ z ≠ 91 ∧ z ≠ 123 ∧ z ≠ 93 ∧ z ≠ 125) by omega) with h | h | h | h | h | ⟨h1, h2, h3, h4, h5⟩
        · have e := hide (out_str dd pp hlt (Z.out.symm.trans h))
          have t1 : (z == 34) = true := beq_iff_eq.2 h
          clear h
          go_wp2
          go_round
          case rel => exact ⟨k + 1, dd, pp, true, by omega, by go_num, rfl, rfl, rfl, by omega, by omega, by rw [← e.out]; exact N.out⟩
          case measure => simp [intOf]; omega
        · have e := hide (out_arr dd pp hlt (Z.out.symm.trans h))
          have t1 : (z == 34) = false := beq_eq_false_iff_ne.2 (by omega)
          have t2 : (z == 91) = true := beq_iff_eq.2 h
          clear h
          by_cases hx : dd < pp + 1
          · have ex : Hid (max dd (pp + 1) = pp + 1) := by show max dd (pp + 1) = _; omega
            go_wp2
            go_round
            case rel => exact ⟨k + 1, pp + 1, pp + 1, false, by omega, by go_num, rfl, rfl, rfl, by omega, by omega, by have e2 := e.out; rw [ex.out] at e2; rw [← e2]; exact N.out⟩
            case measure => simp [intOf]; omega
          · have ex : Hid (max dd (pp + 1) = dd) := by show max dd (pp + 1) = _; omega
            go_wp2
            go_round
            case rel => exact ⟨k + 1, dd, pp + 1, false, by omega, by go_num, rfl, rfl, rfl, by omega, by omega, by have e2 := e.out; rw [ex.out] at e2; rw [← e2]; exact N.out⟩
            case measure => simp [intOf]; omega
        · have e := hide (out_obj dd pp hlt (Z.out.symm.trans h))
          have t1 : (z == 34) = false := beq_eq_false_iff_ne.2 (by omega)
          have t2 : (z == 91) = false := beq_eq_false_iff_ne.2 (by omega)
          have t3 : (z == 123) = true := beq_iff_eq.2 h
          clear h
          by_cases hx : dd < pp + 1
          · have ex : Hid (max dd (pp + 1) = pp + 1) := by show max dd (pp + 1) = _; omega
            go_wp2
            go_round
            case rel => exact ⟨k + 1, pp + 1, pp + 2, false, by omega, by go_num, rfl, rfl, rfl, by omega, by omega, by have e2 := e.out; rw [ex.out] at e2; rw [← e2]; exact N.out⟩
            case measure => simp [intOf]; omega
          · have ex : Hid (max dd (pp + 1) = dd) := by show max dd (pp + 1) = _; omega
            go_wp2
            go_round
            case rel => exact ⟨k + 1, dd, pp + 2, false, by omega, by go_num, rfl, rfl, rfl, by omega, by omega, by have e2 := e.out; rw [ex.out] at e2; rw [← e2]; exact N.out⟩
            case measure => simp [intOf]; omega
        · have e := hide (out_carr dd pp hlt (Z.out.symm.trans h))
          have t1 : (z == 34) = false := beq_eq_false_iff_ne.2 (by omega)
          have t2 : (z == 91) = false := beq_eq_false_iff_ne.2 (by omega)
          have t3 : (z == 123) = false := beq_eq_false_iff_ne.2 (by omega)
          have t4 : (z == 93) = true := beq_iff_eq.2 h
          clear h
          go_wp2
          go_round
          case rel => exact ⟨k + 1, dd, pp - 1, false, by omega, by go_num, rfl, rfl, rfl, by omega, by omega, by rw [← e.out]; exact N.out⟩
          case measure => simp [intOf]; omega
        · have e := hide (out_cobj dd pp hlt (Z.out.symm.trans h))
          have t1 : (z == 34) = false := beq_eq_false_iff_ne.2 (by omega)
          have t2 : (z == 91) = false := beq_eq_false_iff_ne.2 (by omega)
          have t3 : (z == 123) = false := beq_eq_false_iff_ne.2 (by omega)
          have t4 : (z == 93) = false := beq_eq_false_iff_ne.2 (by omega)
          have t5 : (z == 125) = true := beq_iff_eq.2 h
          clear h
          go_wp2
          go_round
          case rel => exact ⟨k + 1, dd, pp - 2, false, by omega, by go_num, rfl, rfl, rfl, by omega, by omega, by rw [← e.out]; exact N.out⟩
          case measure => simp [intOf]; omega
        · have e := hide (out_other dd pp hlt (by rw [← Z.out]; exact h1) (by rw [← Z.out]; exact h2) (by rw [← Z.out]; exact h3) (by rw [← Z.out]; exact h4) (by rw [← Z.out]; exact h5))
          have t1 : (z == 34) = false := beq_eq_false_iff_ne.2 h1
          have t2 : (z == 91) = false := beq_eq_false_iff_ne.2 h2
          have t3 : (z == 123) = false := beq_eq_false_iff_ne.2 h3
          have t4 : (z == 93) = false := beq_eq_false_iff_ne.2 h4
          have t5 : (z == 125) = false := beq_eq_false_iff_ne.2 h5
          clear h1 h2 h3 h4 h5
          go_wp2
          go_round
          case rel => exact ⟨k + 1, dd, pp, false, by omega, by go_num, rfl, rfl, rfl, by omega, by omega, by rw [← e.out]; exact N.out⟩
          case measure => simp [intOf]; omega
    · have e := hide (at_end (l := zs) (k := k) dd pp bb (by omega))
      clear HC
      go_wp2
      go_ret
      exact ⟨ret_int (by rw [← e.out]; exact N.out), rfl⟩

/-- nesting -/
theorem nesting_any (a : Option Addr) (cap : Nat) (zs : List Int) (w : World) (hs : Src w a zs) (hm : zs.length ≤ 1000000) :
    Calls Try.prog 21 #[.slice a zs.length cap] w fun e w' => e = .returned (.int .i64 (nest zs 0 0 false)) ∧ w' = w := by
  rcases hs with rfl | ⟨b, off, rfl, _, hc⟩
  · exact nesting_empty a cap w
  · exact nesting_some b off cap zs w hc hm

set_option maxHeartbeats 400000 in
/-- ZZNesting -/
theorem znesting_any (a : Option Addr) (cap : Nat) (zs : List Int) (w : World) (hs : Src w a zs) (hm : zs.length ≤ 1000000) :
    Calls Try.prog 18 #[.slice a zs.length cap] w fun e w' => e = .returned (.int .i64 (nest zs 0 0 false)) ∧ w' = w := by
  have HS := hide hs
  clear hs
  go_enter Try.func18, Try.ntmps18
  go_wp2_with (go_at_call 21; refine (nesting_any _ _ _ _ HS.out hm).mono ?_; rintro e w' ⟨rfl, rfl⟩)
  go_ret
  exact ⟨rfl, rfl⟩

set_option maxHeartbeats 400000 in
theorem jq_empty (a : Option Addr) (cap : Nat) (w : World) : Calls Try.prog 17 #[.slice a 0 cap] w fun e w' => e = .returned (.int .i64 0) ∧ w' = w := by
  go_enter Try.func17, Try.ntmps17
  go_wp2
  refine wp_loop_rounds 1 ?_
  rw [rounds_succ]
  go_wp2
  go_ret
  exact ⟨rfl, rfl⟩

set_option maxRecDepth 100000 in
set_option maxHeartbeats 1000000 in
theorem jq_some (b off cap : Nat) (zs : List Int) (w : World) (hc : ∀ i, i < zs.length → w.cell? ⟨b, off + i, none⟩ = some (.int .u8 (zs.getD i 0))) (hm : zs.length ≤ 1000000) :
    Calls Try.prog 17 #[.slice (some ⟨b, off, none⟩) zs.length cap] w fun e w' => e = .returned (.int .i64 (jq zs)) ∧ w' = w := by
  have HC := hide hc
  clear hc
  go_enter Try.func17, Try.ntmps17
  go_wp2
  go_loop [3, 4] (fun v i => ∃ (k : Nat) (x : Int), k ≤ zs.length ∧ i = .int .i64 k ∧ v = .int .i64 x ∧ (0 ≤ x ∧ x ≤ 2 * k) ∧ x = jq (zs.take k)) (fun _ i => zs.length - (intOf i).toNat)
  case atStart => exact ⟨0, 0, by omega, rfl, rfl, by omega, by simp [jq]⟩
  case round =>
    obtain ⟨k, x, hk, rfl, rfl, ⟨x1, x2⟩, hx⟩ := hrel
    have X := hide hx
    clear hx
    by_cases hlt : k < zs.length
    · obtain ⟨z, hz⟩ : ∃ z, z = zs.getD k 0 := ⟨_, rfl⟩
      have c1 : w.cell? ⟨b, off + k, none⟩ = some (.int .u8 z) := by rw [hz]; exact HC.out k hlt
      have e := jq_take_succ zs k hlt
      rw [← hz] at e
      clear hz HC
      by_cases h : z = 111
      · have t1 : (z == 111) = true := beq_iff_eq.2 h
        rw [if_pos h] at e
        have E := hide e
        clear h e
        go_wp2
        go_round
        case rel => exact ⟨k + 1, x + 2, by omega, by go_num, rfl, by omega, by rw [E.out, ← X.out]⟩
        case measure => simp [intOf]; omega
      · have t1 : (z == 111) = false := beq_eq_false_iff_ne.2 h
        rw [if_neg h] at e
        have E := hide e
        clear h e
        go_wp2
        go_round
        case rel => exact ⟨k + 1, x + 1, by omega, by go_num, rfl, by omega, by rw [E.out, ← X.out]⟩
        case measure => simp [intOf]; omega
    · clear HC
      go_wp2
      go_ret
      exact ⟨ret_int (by rw [X.out, List.take_of_length_le (by omega)]), rfl⟩

/-- zzJqWeight -/
theorem jq_any (a : Option Addr) (cap : Nat) (zs : List Int) (w : World) (hs : Src w a zs) (hm : zs.length ≤ 1000000) :
    Calls Try.prog 17 #[.slice a zs.length cap] w fun e w' => e = .returned (.int .i64 (jq zs)) ∧ w' = w := by
  rcases hs with rfl | ⟨b, off, rfl, _, hc⟩
  · exact jq_empty a cap w
  · exact jq_some b off cap zs w hc hm

set_option maxHeartbeats 400000 in
theorem bytes_yes (a b : Option Addr) (n c n' c' : Nat) (w : World) (h : n + n' ≤ 1048576) :
    Calls Try.prog 13 #[.slice a n c, .slice b n' c'] w fun e w' => e = .returned (.bool true) ∧ w' = w := by
  have h1 : (n : Int) ≤ 1048576 := by omega
  have h2 : (n' : Int) ≤ 1048576 := by omega
  have h3 : (n : Int) + n' ≤ 1048576 := by omega
  go_enter Try.func13, Try.ntmps13
  go_wp2
  go_ret
  exact ⟨rfl, rfl⟩

set_option maxHeartbeats 400000 in
theorem bytes_no (a b : Option Addr) (n c n' c' : Nat) (w : World) (h : ¬ n + n' ≤ 1048576) (hs : n ≤ maxLen) (ht : n' ≤ maxLen) :
    Calls Try.prog 13 #[.slice a n c, .slice b n' c'] w fun e w' => e = .returned (.bool false) ∧ w' = w := by
  unfold maxLen at hs ht
  by_cases h1 : (1048576 : Int) < n
  · go_enter Try.func13, Try.ntmps13
    go_wp2
    go_ret
    exact ⟨rfl, rfl⟩
  · by_cases h2 : (1048576 : Int) < n'
    · go_enter Try.func13, Try.ntmps13
      go_wp2
      go_ret
      exact ⟨rfl, rfl⟩
    · have h3 : (1048576 : Int) < n + n' := by omega
      go_enter Try.func13, Try.ntmps13
      go_wp2
      go_ret
      exact ⟨rfl, rfl⟩

end Go.Proofs.Qxb6003728a.Nesting
