/-
  The contracts of Validate (7), batchRecords (14) and its two shims (8, 11).
-/
import Derived.Test.Qxb6003693aWalks
namespace Go.Proofs.Qxb6003693a.Parts
open Go.ChangeShapes Go.WideShapes Go.ChangeAt Go.RowKit

theorem Grown.cell {W w' : World} (h : Grown W w') {a : Addr} (ha : a.block < W.heap.size) : w'.cell? a = W.cell? a := by
  have hk := h.1.2.2 a.block ha
  unfold World.cell?
  revert hk
  cases h1 : W.heap[a.block]? with
  | none => 
    cases h2 : w'.heap[a.block]? with
    | none => simp
    | some o' => simp
  | some o =>
    cases h2 : w'.heap[a.block]? with
    | none => cases o <;> simp
    | some o' =>
      cases o <;> cases o' <;> simp
      intro _ _ _ hj
      split
      · rfl
      · exact hj _

/-- is a config in its ranges? -/
def valid (rs win bt rc : Int) : Prop := (1 ≤ rs ∧ rs ≤ 1048576) ∧ (1 ≤ win ∧ win ≤ 1048576) ∧ 1 ≤ bt ∧ 0 ≤ rc

/-- batchRecords -/
def br (rs win bt : Int) : Int := if bt / rs < 1 then 1 else min (bt / rs) win

set_option maxHeartbeats 400000 in
theorem br_any (rs win bt rc : Int) (w : World) (h1 : 1 ≤ rs) (h5 : 1 ≤ bt) (h6 : bt ≤ 9223372036854775807) :
    Calls Try.prog 14 #[.agg #[.int .i64 rs, .int .i64 win, .int .i64 bt, .int .i64 rc]] w fun e w' => e = .returned (.int .i64 (br rs win bt)) ∧ Grown w w' := by
  have hq : 0 ≤ bt / rs := Int.ediv_nonneg (by omega) (by omega)
  have hne : (rs == 0) = false := by simp; omega
  by_cases h : bt / rs < 1
  · go_enter Try.func14, Try.ntmps14
    go_wp2
    go_ret
    exact ⟨by simp [br, h], (Grown.refl _).alloc _ _⟩
  · by_cases h' : win < bt / rs
    · go_enter Try.func14, Try.ntmps14
      go_wp2
      go_ret
      exact ⟨by simp [br]; omega, (Grown.refl _).alloc _ _⟩
    · go_enter Try.func14, Try.ntmps14
      go_wp2
      go_ret
      exact ⟨by simp [br]; omega, (Grown.refl _).alloc _ _⟩

set_option maxHeartbeats 400000 in
theorem zb_any (rs win bt rc : Int) (w : World) (h1 : 1 ≤ rs) (h5 : 1 ≤ bt) (h6 : bt ≤ 9223372036854775807) :
    Calls Try.prog 11 #[.agg #[.int .i64 rs, .int .i64 win, .int .i64 bt, .int .i64 rc]] w fun e w' => e = .returned (.int .i64 (br rs win bt)) ∧ Grown w w' := by
  go_enter Try.func11, Try.ntmps11
  go_wp2_with (go_at_call 14; refine (br_any _ _ _ _ _ h1 h5 h6).mono ?_; rintro e w' ⟨rfl, hg⟩)
  go_ret
  exact ⟨rfl, Grown.trans ((Grown.refl _).alloc _ _) hg⟩

set_option maxHeartbeats 400000 in
theorem zB_any (rs win bt rc : Int) (w : World) (h1 : 1 ≤ rs) (h5 : 1 ≤ bt) (h6 : bt ≤ 9223372036854775807) :
    Calls Try.prog 8 #[.agg #[.int .i64 rs, .int .i64 win, .int .i64 bt, .int .i64 rc]] w fun e w' => e = .returned (.int .i64 (br rs win bt)) ∧ Grown w w' := by
  go_enter Try.func8, Try.ntmps8
  go_wp2_with (go_at_call 14; refine (br_any _ _ _ _ _ h1 h5 h6).mono ?_; rintro e w' ⟨rfl, hg⟩)
  go_ret
  exact ⟨rfl, Grown.trans ((Grown.refl _).alloc _ _) hg⟩

theorem gcell {W w1 : World} (hg : Grown W w1) : ∀ b o, b < W.heap.size → w1.cell? ⟨b, o, none⟩ = W.cell? ⟨b, o, none⟩ :=
  fun b o h => Grown.cell hg (a := ⟨b, o, none⟩) h

theorem ans_imp {p q : Prop} {r : Value} (h : Ans p r) (hpq : p ↔ q) : Ans q r := by
  rcases h with ⟨h, e⟩ | ⟨h, e⟩
  · exact .inl ⟨hpq.1 h, e⟩
  · exact .inr ⟨fun k => h (hpq.2 k), e⟩

set_option maxHeartbeats 800000 in
/-- Validate -/
theorem val_any (rs win bt rc : Int) (w : World) :
    Calls Try.prog 7 #[.agg #[.int .i64 rs, .int .i64 win, .int .i64 bt, .int .i64 rc]] w fun e w' => ∃ r, e = .returned r ∧ Ans (valid rs win bt rc) r ∧ Grown w w' := by
  go_enter Try.func7, Try.ntmps7
  go_wp2_with fail
  refine (rs_any _ _).mono ?_
  rintro e w1 ⟨r, rfl, ha, hg1⟩
  have hz1 : w.heap.size < w1.heap.size := by have := hg1.2.2; simp at this; omega
  have hc1 := gcell hg1
  have G1 := Grown.trans ((Grown.refl w).alloc _ _) hg1
  clear hg1
  rcases ha with ⟨ha, rfl⟩ | ⟨ha, x, rfl⟩
  · go_wp2_with fail
    refine (cr_any _ _ _ _ _).mono ?_
    rintro e w2 ⟨r, rfl, hb, hg2⟩
    have hz2 : w.heap.size < w2.heap.size := by have := hg2.2.2; omega
    have hc2 := gcell hg2
    have G2 := Grown.trans G1 hg2
    clear hg2 G1
    rcases hb with ⟨hb, rfl⟩ | ⟨hb, x, rfl⟩
    · go_wp2_with fail
      refine (cr_any _ _ _ _ _).mono ?_
      rintro e w3 ⟨r, rfl, hd, hg3⟩
      have hz3 : w.heap.size < w3.heap.size := by have := hg3.2.2; omega
      have hc3 := gcell hg3
      have G3 := Grown.trans G2 hg3
      clear hg3 G2
      rcases hd with ⟨hd, rfl⟩ | ⟨hd, x, rfl⟩
      · go_wp2_with fail
        refine (cr_any _ _ _ _ _).mono ?_
        rintro e w4 ⟨r, rfl, he, hg4⟩
        go_wp2
        go_ret
        refine ⟨_, rfl, ans_imp he ?_, Grown.trans G3 hg4⟩
        unfold acc at *; unfold valid; omega
      · go_wp2
        go_ret
        refine ⟨_, rfl, .inr ⟨?_, x, rfl⟩, G3⟩
        unfold acc at *; unfold valid; omega
    · go_wp2
      go_ret
      refine ⟨_, rfl, .inr ⟨?_, x, rfl⟩, G2⟩
      unfold acc at *; unfold valid; omega
  · go_wp2
    go_ret
    refine ⟨_, rfl, .inr ⟨?_, x, rfl⟩, G1⟩
    unfold acc at *; unfold valid; omega

theorem val_yes (rs win bt rc : Int) (w : World) (h : valid rs win bt rc) :
    Calls Try.prog 7 #[.agg #[.int .i64 rs, .int .i64 win, .int .i64 bt, .int .i64 rc]] w fun e w' => e = .returned .nilIface ∧ Grown w w' :=
  (val_any rs win bt rc w).mono fun e w' ⟨r, he, ha, hg⟩ => by
    rcases ha with ⟨_, rfl⟩ | ⟨hn, _⟩
    · exact ⟨he, hg⟩
    · exact (hn h).elim
theorem val_no (rs win bt rc : Int) (w : World) (h : ¬ valid rs win bt rc) :
    Calls Try.prog 7 #[.agg #[.int .i64 rs, .int .i64 win, .int .i64 bt, .int .i64 rc]] w fun e w' => (∃ x, e = .returned (.iface 35 x)) ∧ Grown w w' :=
  (val_any rs win bt rc w).mono fun e w' ⟨r, he, ha, hg⟩ => by
    rcases ha with ⟨hn, _⟩ | ⟨_, x, rfl⟩
    · exact (h hn).elim
    · exact ⟨⟨x, he⟩, hg⟩

/-! ### the plain law of batchRecords -/
theorem br_ge (rs win bt : Int) (h3 : 1 ≤ win) : 1 ≤ br rs win bt := by unfold br; split <;> omega
theorem br_le (rs win bt : Int) (h3 : 1 ≤ win) : br rs win bt ≤ win := by unfold br; split <;> omega
theorem br_fits (rs win bt : Int) (h1 : 1 ≤ rs) : br rs win bt * rs ≤ bt ∨ br rs win bt = 1 := by
  unfold br
  split
  · exact .inr rfl
  · left
    rename_i h
    have h2 : min (bt / rs) win ≤ bt / rs := Int.min_le_left _ _
    have h3 := Int.mul_le_mul_of_nonneg_right h2 (show 0 ≤ rs by omega)
    have h4 := Int.ediv_mul_le bt (show rs ≠ 0 by omega)
    omega
theorem br_most (rs win bt : Int) (h1 : 1 ≤ rs) (h5 : 1 ≤ bt) (h : br rs win bt < win) : bt < (br rs win bt + 1) * rs := by
  have h4 := Int.lt_ediv_add_one_mul_self bt (show 0 < rs by omega)
  unfold br at *
  split at h
  · rename_i h2
    rw [if_pos h2]
    have hq : 0 ≤ bt / rs := Int.ediv_nonneg (by omega) (by omega)
    have hz : bt / rs = 0 := by omega
    rw [hz] at h4
    omega
  · rename_i h2
    rw [if_neg h2]
    have hz : min (bt / rs) win = bt / rs := by omega
    rw [hz]; exact h4
theorem br_mono (rs win bt rs' win' bt' : Int) (h1 : 1 ≤ rs') (h2 : rs' ≤ rs) (h3 : 1 ≤ win') (hw : win ≤ win') (h5 : 1 ≤ bt) (hb : bt ≤ bt') : br rs win bt ≤ br rs' win' bt' := by
  have ha : bt / rs ≤ bt' / rs := Int.ediv_le_ediv (by omega) hb
  have hc : bt' / rs ≤ bt' / rs' := by
    have hq : 0 ≤ bt' / rs := Int.ediv_nonneg (by omega) (by omega)
    rw [Int.le_ediv_iff_mul_le (by omega)]
    have := Int.mul_le_mul_of_nonneg_left h2 hq
    have := Int.ediv_mul_le bt' (show rs ≠ 0 by omega)
    omega
  unfold br
  split <;> split <;> omega

end Go.Proofs.Qxb6003693a.Parts
