/-
  The walks of zzSameBytes_rg2 (29) at two slices of the same bytes, of zzMin_rg2 (37) and of the bound on the lengths (30).
-/
import Derived.Test.Qxb6003698aClone
import Derived.Deep.QuietTactic
import Derived.BigQuiet
namespace Go.Proofs.Qxb6003698a.Same
open Go.RowKit Go.Proofs.Qxb6003698a.Clone

theorem ret_int {k : IntKind} {a b : Int} (h : a = b) : Ending.returned (.int k a) = .returned (.int k b) := by rw [h]

set_option maxHeartbeats 400000 in
theorem min_any (x y : Int) (w : World) : Calls Try.prog 37 #[.int .i64 x, .int .i64 y] w fun e w' => e = .returned (.int .i64 (min x y)) ∧ w' = w := by
  by_cases h : x < y
  · go_enter Try.func37, Try.ntmps37
    go_wp2
    go_ret
    exact ⟨ret_int (by omega), rfl⟩
  · go_enter Try.func37, Try.ntmps37
    go_wp2
    go_ret
    exact ⟨ret_int (by omega), rfl⟩

set_option maxHeartbeats 400000 in
theorem same_empty (a a' : Option Addr) (c c' : Nat) (w : World) : Calls Try.prog 29 #[.slice a 0 c, .slice a' 0 c'] w fun e w' => e = .returned (.bool true) ∧ w' = w := by
  go_enter Try.func29, Try.ntmps29
  go_wp2
  refine wp_loop_rounds 1 ?_
  rw [rounds_succ]
  go_wp2
  go_ret
  exact ⟨rfl, rfl⟩

set_option maxRecDepth 100000 in
set_option maxHeartbeats 1000000 in
theorem same_some (b off b' off' c c' : Nat) (zs : List Int) (w : World) (hc : ∀ i, i < zs.length → w.cell? ⟨b, off + i, none⟩ = some (.int .u8 (zs.getD i 0))) (hc' : ∀ i, i < zs.length → w.cell? ⟨b', off' + i, none⟩ = some (.int .u8 (zs.getD i 0))) (hm : zs.length ≤ 1048576) :
    Calls Try.prog 29 #[.slice (some ⟨b, off, none⟩) zs.length c, .slice (some ⟨b', off', none⟩) zs.length c'] w fun e w' => e = .returned (.bool true) ∧ ∃ n, w' = w.drewN n := by
  have hne : ((zs.length : Int) != (zs.length : Int)) = false := by simp
  have HC := hide hc
  have HC' := hide hc'
  clear hc hc'
  go_enter Try.func29, Try.ntmps29
  go_wp2
  go_loopw [5] (fun i wr => ∃ k : Nat, k ≤ zs.length ∧ i = .int .i64 k ∧ ∃ n, wr = w.drewN n) (fun i _ => zs.length - (intOf i).toNat)
  case atStart => exact ⟨0, Nat.zero_le _, rfl, 0, rfl⟩
  case round =>
    obtain ⟨k, hk, rfl, n, rfl⟩ := hrel
    by_cases hlt : k < zs.length
    · obtain ⟨z, hz⟩ : ∃ z, z = zs.getD k 0 := ⟨_, rfl⟩
      have c1 : w.cell? ⟨b, off + k, none⟩ = some (.int .u8 z) := by rw [hz]; exact HC.out k hlt
      have c2 : w.cell? ⟨b', off' + k, none⟩ = some (.int .u8 z) := by rw [hz]; exact HC'.out k hlt
      have hi : (k : Int) < (zs.length : Int) := by omega
      clear hz HC HC'
      go_wp2
      go_quiet (fail)
      go_wp2
      go_roundw
      case rel => exact ⟨k + 1, by omega, by go_num, _, rfl⟩
      case measure => simp [intOf]; omega
    · clear HC HC'
      go_wp2
      go_ret
      exact ⟨rfl, n, rfl⟩

/-- two slices of the same bytes are the same -/
theorem same_any (a a' : Option Addr) (c c' : Nat) (zs : List Int) (w : World) (h : Src w a zs) (h' : Src w a' zs) (hm : zs.length ≤ 1048576) :
    Calls Try.prog 29 #[.slice a zs.length c, .slice a' zs.length c'] w fun e w' => e = .returned (.bool true) ∧ ∃ n, w' = w.drewN n := by
  by_cases hz : zs = []
  · subst hz
    exact (same_empty a a' c c' w).mono fun e w' ⟨he, hw⟩ => ⟨he, 0, hw⟩
  · rcases h with h | ⟨b, off, rfl, _, hc⟩
    · exact (hz h).elim
    · rcases h' with h | ⟨b', off', rfl, _, hc'⟩
      · exact (hz h).elim
      · exact same_some b off b' off' c c' zs w hc hc' hm

set_option maxHeartbeats 400000 in
theorem bytes_yes (a b : Option Addr) (n c n' c' : Nat) (w : World) (h : n + n' ≤ 1048576) :
    Calls Try.prog 30 #[.slice a n c, .slice b n' c'] w fun e w' => e = .returned (.bool true) ∧ w' = w := by
  have h1 : (n : Int) ≤ 1048576 := by omega
  have h2 : (n' : Int) ≤ 1048576 := by omega
  have h3 : (n : Int) + n' ≤ 1048576 := by omega
  go_enter Try.func30, Try.ntmps30
  go_wp2
  go_ret
  exact ⟨rfl, rfl⟩

set_option maxHeartbeats 400000 in
theorem bytes_no (a b : Option Addr) (n c n' c' : Nat) (w : World) (h : ¬ n + n' ≤ 1048576) (hs : n ≤ maxLen) (ht : n' ≤ maxLen) :
    Calls Try.prog 30 #[.slice a n c, .slice b n' c'] w fun e w' => e = .returned (.bool false) ∧ w' = w := by
  unfold maxLen at hs ht
  by_cases h1 : (1048576 : Int) < n
  · go_enter Try.func30, Try.ntmps30
    go_wp2
    go_ret
    exact ⟨rfl, rfl⟩
  · by_cases h2 : (1048576 : Int) < n'
    · go_enter Try.func30, Try.ntmps30
      go_wp2
      go_ret
      exact ⟨rfl, rfl⟩
    · have h3 : (1048576 : Int) < n + n' := by omega
      go_enter Try.func30, Try.ntmps30
      go_wp2
      go_ret
      exact ⟨rfl, rfl⟩

end Go.Proofs.Qxb6003698a.Same
