/-
  FnNestingCountsTreeDepth (6) at whatever two slices of bytes.
-/
import Derived.Test.Qxb6003728aDepth
import Derived.OpenShut
namespace Go.Proofs.Qxb6003728a.Whole
open Go.RowKit Go.Proofs.Qxb6003728a.Nesting Go.Proofs.Qxb6003728a.Depth
open Go.Proofs.Qxb6003728a.Clone (Src)

/-- WHAT THE ROW's FRAME TELLS OF A SLICE OF BYTES THAT CAME IN -/
def Row (w : World) (a : Option Addr) (len cap : Nat) (zs : List Int) : Prop :=
  (a = none ∧ len = 0 ∧ cap = 0 ∧ zs = []) ∨
  ∃ x, a = some x ∧ len ≤ cap ∧ cap ≤ maxLen ∧ zs.length = cap ∧ (∀ i, i < zs.length → w.cell? (x.add i) = some (.int .u8 (zs.getD i 0))) ∧ ∀ n ∈ zs, (Lit.int .u8 n).wf = true

theorem getD_bounds {zs : List Int} (h : ∀ n ∈ zs, (Lit.int .u8 n).wf = true) (i : Nat) : 0 ≤ zs.getD i 0 ∧ zs.getD i 0 ≤ 255 := by
  have := range_u8 h i
  simpa [List.getD] using this

theorem Row.parts {w : World} {a : Option Addr} {len cap : Nat} {zs : List Int} (h : Row w a len cap zs) :
    (a = none → zs.take len = [] ∧ cap = 0) ∧ Src w a (zs.take len) ∧ (zs.take len).length = len ∧ len ≤ maxLen ∧ ∀ i, 0 ≤ (zs.take len).getD i 0 ∧ (zs.take len).getD i 0 ≤ 255 := by
  rcases h with ⟨rfl, rfl, rfl, rfl⟩ | ⟨x, rfl, hl, hm, hz, hc, hw⟩
  · exact ⟨fun _ => ⟨rfl, rfl⟩, .inl rfl, rfl, Nat.zero_le _, fun i => by simp⟩
  · refine ⟨fun e => (by simp at e), ?_, by simp; omega, by omega, getD_bounds fun n hn => hw n (List.mem_of_mem_take hn)⟩
    by_cases h0 : len = 0
    · subst h0; exact .inl rfl
    · obtain ⟨b, off, spot⟩ := x
      have hc0 := hc 0 (by omega)
      have hspot : spot = none := by simpa [Addr.add] using World.cell?_spot hc0
      subst hspot
      have e1 : ∀ i, (⟨b, off, none⟩ : Addr).add i = ⟨b, off + i, none⟩ := fun i => by unfold Addr.add; split <;> simp_all
      refine .inr ⟨b, off, rfl, ?_, fun i hi => ?_⟩
      · rw [e1] at hc0
        exact World.block_lt_of_cell? w _ hc0
      · have hi2 : i < min len zs.length := by simpa using hi
        have hi1 : i < len := by omega
        have := hc i (by omega)
        rw [e1] at this
        rw [this]
        simp [List.getD, List.getElem?_take_of_lt hi1]

set_option maxHeartbeats 400000 in
set_option maxRecDepth 1000000 in
theorem walk_long (a0 a1 : Option Addr) (n0 cap0 n1 cap1 : Nat) (w : World) (m0 : n0 ≤ maxLen) (m1 : n1 ≤ maxLen) (h : ¬ (n0 ≤ 4096 ∧ n1 ≤ 4096)) :
    Calls Try.prog 6 #[.slice a0 n0 cap0, .slice a1 n1 cap1] w fun e w' => e = .returned (.bool true) ∧ Below w.heap.size w w' := by
  by_cases hb : n0 + n1 ≤ 1048576
  · by_cases h0 : (4096 : Int) < (n0 : Int)
    · go_enter Try.func6, Try.ntmps6
      go_wp2_with (go_at_call 13; refine (bytes_yes _ _ _ _ _ _ _ hb).mono ?_; rintro e w' ⟨rfl, rfl⟩)
      go_ret
      exact ⟨rfl, Below.refl _ _⟩
    · have h1 : (4096 : Int) < (n1 : Int) := by omega
      go_enter Try.func6, Try.ntmps6
      go_wp2_with (go_at_call 13; refine (bytes_yes _ _ _ _ _ _ _ hb).mono ?_; rintro e w' ⟨rfl, rfl⟩)
      go_ret
      exact ⟨rfl, Below.refl _ _⟩
  · go_enter Try.func6, Try.ntmps6
    go_wp2_with (go_at_call 13; refine (bytes_no _ _ _ _ _ _ _ hb m0 m1).mono ?_; rintro e w' ⟨rfl, rfl⟩)
    go_ret
    exact ⟨rfl, Below.refl _ _⟩

theorem walk (a0 : Option Addr) (len0 cap0 : Nat) (z0 : List Int) (a1 : Option Addr) (len1 cap1 : Nat) (z1 : List Int) (w : World) (w0 : Row w a0 len0 cap0 z0) (w1 : Row w a1 len1 cap1 z1) :
    Calls Try.prog 6 #[.slice a0 len0 cap0, .slice a1 len1 cap1] w fun e w' => e = .returned (.bool true) ∧ Below w.heap.size w w' := by
  obtain ⟨n0, s0, l0, m0, b0⟩ := w0.parts
  obtain ⟨n1, s1, l1, m1, b1⟩ := w1.parts
  by_cases h : len0 ≤ 4096 ∧ len1 ≤ 4096
  · have := walk_main a0 a1 cap0 cap1 (z0.take len0) (z1.take len1) w n0 n1 s0 s1 (by omega) (by omega) b0 b1
    rw [l0, l1] at this
    exact this
  · exact walk_long a0 a1 len0 cap0 len1 cap1 w m0 m1 h

end Go.Proofs.Qxb6003728a.Whole
