/-
  The walk of FnScanKeepsFirstHeldBytesOfWhatItIsTold (6).
-/
import Derived.Test.Qxb6003698aInv
import Derived.OpenShut
namespace Go.Proofs.Qxb6003698a.Scan
open Go.RowKit Go.Proofs.Qxb6003698a.Base Go.Proofs.Qxb6003698a.Word Go.Proofs.Qxb6003698a.Run Go.Proofs.Qxb6003698a.End Go.Proofs.Qxb6003698a.Same Go.Proofs.Qxb6003698a.Inv Go.Proofs.Qxb6003698a.Zero
open Go.Proofs.Qxb6003698a.Clone (Src clone_any)

theorem src_below {w w' : World} {a : Option Addr} {zs : List Int} (h : Src w a zs) (hb : Below w.heap.size w w') : Src w' a zs := by
  rcases h with h | ⟨b, off, e, hlt, hc⟩
  · exact .inl h
  · exact .inr ⟨b, off, e, Nat.lt_of_lt_of_le hlt hb.size, fun i hi => (hb.cell (p := ⟨b, off + i, none⟩) hlt).trans (hc i hi)⟩

theorem inv_start (w2 : World) :
    Inv w2.heap.size w2 (.slice none 0 0) [] [] [] (w2.alloc (.cells #[.slice none 0 0, .slice none 0 0, .string ⟨#[]⟩, .int .i64 0, .int .i64 0, .int .u64 0, .slice none 0 0, .slice none 0 0, .bool false, .int .i64 0, .int .i64 0, .bool false, .bool false] 57)) :=
  ⟨⟨.slice none 0 0, .slice none 0 0, ⟨heap_alloc_new w2 _, World.ownsRow_nil _ _ _ _, World.ownsRow_nil _ _ _ _, .inl rfl⟩, fun k hk => by simp [Value.ownBlock] at hk⟩, World.ownsRow_nil _ _ _ _, (Below.refl _ _).alloc (Nat.le_refl _) _⟩

/-- a byte of a cloned slice, in whatever world lies behind the struct's making -/
theorem src_cell {w : World} {a : Option Addr} {zs : List Int} (h : Src w a zs) {k : Nat} (hk : k < zs.length) : ∃ b off, a = some ⟨b, off, none⟩ ∧ b < w.heap.size ∧ w.cell? ⟨b, off + k, none⟩ = some (.int .u8 (zs.getD k 0)) := by
  rcases h with h | ⟨b, off, e, hlt, hc⟩
  · subst h; simp at hk
  · exact ⟨b, off, e, hlt, hc k hk⟩

set_option maxRecDepth 1000000 in
set_option maxHeartbeats 4000000 in
theorem walk_main (a0 a1 : Option Addr) (cap0 cap1 : Nat) (ops chars : List Int) (w : World) (n0 : a0 = none → ops = [] ∧ cap0 = 0) (n1 : a1 = none → chars = [] ∧ cap1 = 0) (s0 : Src w a0 ops) (s1 : Src w a1 chars)
    (m0 : ops.length ≤ 65536) (m1 : chars.length ≤ 65536) (hw0 : ∀ i, 0 ≤ ops.getD i 0 ∧ ops.getD i 0 ≤ 255) (hw1 : ∀ i, 0 ≤ chars.getD i 0 ∧ chars.getD i 0 ≤ 255) :
    Calls Try.prog 6 #[.slice a0 ops.length cap0, .slice a1 chars.length cap1] w fun e w' => e = .returned (.bool true) ∧ Below w.heap.size w w' := by
  obtain ⟨i0, hi, hz0, hz1, hz2⟩ := info_parts info5
  have d0 : decide ((65536 : Int) < (ops.length : Int)) = false := by simp; omega
  have d1 : decide ((65536 : Int) < (chars.length : Int)) = false := by simp; omega
  have S0 := hide s0
  have S1 := hide s1
  have N0 := hide n0
  have N1 := hide n1
  have W0 := hide hw0
  have W1 := hide hw1
  clear s0 s1 n0 n1 hw0 hw1
  go_enter Try.func6, Try.ntmps6
  go_wp2_with (go_at_call 30; refine (bytes_yes _ _ _ _ _ _ _ (by omega)).mono ?_; rintro e w' ⟨rfl, rfl⟩)
  refine (clone_any _ _ _ _ N0.out S0.out (by omega)).mono ?_
  rintro e w1 ⟨v0, rfl, ho0, hb0⟩
  have S1' := hide (src_below S1.out hb0)
  obtain ⟨b0, c0, rfl⟩ := own_slice ho0
  have O0 := hide ho0
  have B0 := hide hb0
  clear S0 S1 ho0 hb0
  go_wp2_with fail
  refine (clone_any _ _ _ _ N1.out S1'.out (by omega)).mono ?_
  rintro e w2 ⟨v1, rfl, ho1, hb1⟩
  obtain ⟨b1, c1, rfl⟩ := own_slice ho1
  have Q0 := hide (src_below (own_src O0.out).2.1 hb1)
  have Q1 := hide (own_src ho1).2.1
  have BB := hide (B0.out.trans (hb1.mono B0.out.size))
  clear S1' ho1 hb1 O0 B0
  go_wp2
  go_loopw [6, 7] (fun tv i wr => ∃ (k : Nat) (told nrm word : List Int), k ≤ ops.length ∧ i = .int .i64 k ∧ told.length ≤ k ∧ nrm ++ word = told.take 800 ∧ Inv w2.heap.size w2 tv told nrm word wr) (fun _ i _ => ops.length - (intOf i).toNat)
  case atStart => exact ⟨0, [], [], [], Nat.zero_le _, rfl, Nat.zero_le _, rfl, inv_start w2⟩
  case round =>
    obtain ⟨k, told, nrm, word, hk, rfl, htl, heq, hI⟩ := hrel
    obtain ⟨ta, tc, rfl⟩ := own_slice hI.own
    have hln : nrm.length + word.length ≤ 800 := by have := congrArg List.length heq; simp at this; omega
    have E := hide heq
    clear heq
    by_cases hlt : k < ops.length
    · obtain ⟨g0, o0, rfl, hg0, hc0⟩ := src_cell Q0.out hlt
      obtain ⟨z, hz⟩ : ∃ z, z = ops.getD k 0 := ⟨_, rfl⟩
      have x0 : wr.cell? ⟨g0, o0 + k, none⟩ = some (.int .u8 z) := by rw [hz]; exact (hI.bel.cell (p := ⟨g0, o0 + k, none⟩) hg0).trans hc0
      have z0 := (W0.out k).1
      have z1 := (W0.out k).2
      rw [← hz] at z0 z1
      clear hz hc0 Q0
      have hcase : (z % 3 == 0) = true ∨ ((z % 3 == 0) = false ∧ (z % 3 == 1) = true) ∨ ((z % 3 == 0) = false ∧ (z % 3 == 1) = false) := by
        cases h1 : (z % 3 == 0) <;> cases h2 : (z % 3 == 1) <;> simp
      by_cases hm : 0 < chars.length
      · obtain ⟨g1, o1, rfl, hg1, hc1⟩ := src_cell Q1.out (Nat.mod_lt k hm)
        obtain ⟨c, hc⟩ : ∃ c, c = chars.getD (k % chars.length) 0 := ⟨_, rfl⟩
        have x1 : wr.cell? ⟨g1, o1 + k % chars.length, none⟩ = some (.int .u8 c) := by rw [hc]; exact (hI.bel.cell (p := ⟨g1, o1 + k % chars.length, none⟩) hg1).trans hc1
        have y0 : (0 : Int) ≤ (k : Int) % (chars.length : Int) := by omega
        have y1 : (k : Int) % (chars.length : Int) < (chars.length : Int) := Int.emod_lt_of_pos _ (by omega)
        clear hc hc1 Q1
        rcases hcase with h1 | ⟨h1, h2⟩ | ⟨h1, h2⟩
        · go_wp2_with fail
          refine (inv_word c hI hln).mono ?_
          rintro e w3 ⟨rfl, hJ⟩
          have hb3 := (Below.refl w3.heap.size w3).alloc (Nat.le_refl _) (.cells #[.int .u8 c] 5)
          have t1 : told.length + 1 ≤ maxLen := by unfold maxLen; omega
          have t2 : (told.length + 1) * 1 ≤ 140737488355328 := by omega
          have t3 : w2.heap.size + 1 ≤ (w3.alloc (.cells #[.int .u8 c] 5)).heap.size := by have := hJ.lt_size; simp; omega
          have t4 : ∀ u ∈ [Value.int .u8 c], u.oneCell' = true := by intro u hu; simp at hu; subst hu; rfl
          have T4 := hide t4
          clear t4
          go_wp2_with (at_builtin; refine wpList_append_lies _ rfl (.tmp 63) (.tmp 65) 25 rfl (w2.heap.size + 1) 5 i0 (.int .u8 0) 1 1 Try.underlying25 hi hz0 hz1 hz2 rfl (by decide) _ told.length (cellsB told) rfl (hJ.own.alloc _) ⟨w3.heap.size, 0, none⟩ 1 1 [.int .u8 c] rfl rfl (cell_one_new _ _ _) T4.out (by decide) t1 t2 t3 _ rfl ?_)
          intro g gc w4 hown hgrow hat hlt4
          obtain ⟨told', hT⟩ : ∃ told', told' = told ++ [c] := ⟨_, rfl⟩
          have hTl : told.length + 1 = told'.length := by rw [hT]; simp
          have hI0 := inv_told c hJ hb3 hown hgrow hat (by simp)
          rw [← hT, hTl] at hI0
          rw [hTl]
          have htl' : told'.length ≤ k + 1 := by omega
          obtain ⟨nrm', hN⟩ : ∃ nrm', nrm' = nrm := ⟨_, rfl⟩
          obtain ⟨word', hW⟩ : ∃ word', word' = wordIn nrm word c := ⟨_, rfl⟩
          have E' : Hid (nrm' ++ word' = told'.take 800) := by rw [hN, hW, hT]; exact step_word _ _ _ _ E.out
          rw [← hW, ← hN] at hI0
          have hln' : nrm'.length + word'.length ≤ 800 := by have := congrArg List.length E'.out; simp at this; omega
          obtain ⟨ta', hta⟩ : ∃ ta', ta' = some (⟨g, 0, none⟩ : Addr) := ⟨_, rfl⟩
          obtain ⟨tc', htc⟩ : ∃ tc', tc' = gc := ⟨_, rfl⟩
          rw [← hta, ← htc] at hI0
          rw [← hta, ← htc]
          have hI' := hI0
          clear hown hgrow hat hlt4 hT hTl hN hW hta htc hI0 hJ hb3 hI t1 t2 t3 T4 E
          go_wp2_with fail
          refine (inv_getn hI').mono ?_
          rintro e w5 ⟨⟨na, nc, rfl, hn1, hn2⟩, rfl⟩
          go_wp2_with fail
          refine (clone_any na nc nrm' _ hn1 hn2 (by omega)).mono ?_
          rintro e w6 ⟨hv, rfl, ho, hb⟩
          have hI6 := hI'.below hb
          go_wp2_with fail
          refine (inv_getw hI6).mono ?_
          rintro e w7 ⟨⟨wa, wc, rfl, hw1⟩, rfl⟩
          obtain ⟨zs, hzs⟩ : ∃ zs, zs = told'.take 800 := ⟨_, rfl⟩
          have ZL := hide (show zs.length = min told'.length 800 by rw [hzs, List.length_take, Nat.min_comm])
          have ZE : Hid (nrm' ++ word' = zs) := by rw [hzs]; exact E'.out
          have ZM : zs.length ≤ 800 := by have := ZL.out; omega
          have ZN : nrm'.length + word'.length = zs.length := by have := congrArg List.length ZE.out; simpa using this
          have ZT := hide hzs
          have s1 := hide (src_append hw1)
          have s2 : nrm'.length + word'.length ≤ maxLen := by unfold maxLen; omega
          have s3 : (nrm'.length + word'.length) * 1 ≤ 140737488355328 := by omega
          have HO := hide ho
          have HZN := hide ZN
          clear hzs ho ZN hw1 hn1 hn2
          go_wp2_with (at_builtin; refine wpList_append_src _ rfl (.tmp 74) (.tmp 76) 25 rfl _ 5 i0 (.int .u8 0) 1 Try.underlying25 hi hz0 hz1 hz2 rfl _ nrm'.length (cellsB nrm') rfl HO.out wa word'.length wc (cellsB word') rfl (cellsB_length _) s1.out (ints_oneCell .u8 word') s2 s3 hb.size ?_)
          intro hv2 w8 ho2 hg2
          have hb8 : Below _ _ w8 := inv_held hb hg2 (fun k hk => own_ge HO.out hk)
          have hI8 := hI'.below hb8
          rw [HZN.out, ← cellsB_append, ZE.out] at ho2
          obtain ⟨ha, hc, rfl⟩ := own_slice ho2
          have r1 := hide (own_src ho2).2.1
          have r2 : Hid (Src w8 ta' zs) := by rw [ZT.out]; exact src_take (own_src hI8.own).2.1 800
          have q1 : (zs.length : Int) ≤ (tc' : Int) := by have := (own_src hI8.own).2.2.2.2; have := ZL.out; omega
          have q0 : (0 : Int) ≤ (zs.length : Int) := by omega
          have J := hide hI8
          clear hb8 hI8 hg2 ho2 HO hI6 hI' hb s1 ZT
          go_wp2_with fail
          refine (min_is told'.length zs ZL.out _).mono ?_
          rintro e w9 ⟨rfl, rfl⟩
          go_wp2_with fail
          refine (same_any ha ta' hc tc' zs _ r1.out r2.out (by omega)).mono ?_
          rintro e w10 ⟨rfl, nq, rfl⟩
          have J2 := hide (J.out.below (below_drewN (Below.refl _ _) nq))
          clear r1 r2 J
          go_wp2
          go_roundw
          case rel => exact ⟨k + 1, told', nrm', word', by omega, by go_num, htl', E'.out, J2.out⟩
          case measure => simp [intOf]; omega
        · go_wp2_with fail
          refine (inv_end hI hln).mono ?_
          rintro e w3 ⟨rfl, hJ⟩
          obtain ⟨nrm', hN⟩ : ∃ nrm', nrm' = nrm ++ word := ⟨_, rfl⟩
          obtain ⟨word', hW⟩ : ∃ word' : List Int, word' = [] := ⟨_, rfl⟩
          obtain ⟨told', hT⟩ : ∃ told', told' = told := ⟨_, rfl⟩
          have E' : Hid (nrm' ++ word' = told'.take 800) := by rw [hN, hW, hT, List.append_nil]; exact E.out
          have htl' : told'.length ≤ k + 1 := by rw [hT]; omega
          rw [← hN, ← hW, ← hT] at hJ
          rw [← hT]
          have hln' : nrm'.length + word'.length ≤ 800 := by have := congrArg List.length E'.out; simp at this; omega
          obtain ⟨ta', hta⟩ : ∃ ta', ta' = ta := ⟨_, rfl⟩
          obtain ⟨tc', htc⟩ : ∃ tc', tc' = tc := ⟨_, rfl⟩
          rw [← hta, ← htc] at hJ
          rw [← hta, ← htc]
          have hI' := hJ
          clear hT hN hW hta htc hJ hI E
          go_wp2_with fail
          refine (inv_getn hI').mono ?_
          rintro e w5 ⟨⟨na, nc, rfl, hn1, hn2⟩, rfl⟩
          go_wp2_with fail
          refine (clone_any na nc nrm' _ hn1 hn2 (by omega)).mono ?_
          rintro e w6 ⟨hv, rfl, ho, hb⟩
          have hI6 := hI'.below hb
          go_wp2_with fail
          refine (inv_getw hI6).mono ?_
          rintro e w7 ⟨⟨wa, wc, rfl, hw1⟩, rfl⟩
          obtain ⟨zs, hzs⟩ : ∃ zs, zs = told'.take 800 := ⟨_, rfl⟩
          have ZL := hide (show zs.length = min told'.length 800 by rw [hzs, List.length_take, Nat.min_comm])
          have ZE : Hid (nrm' ++ word' = zs) := by rw [hzs]; exact E'.out
          have ZM : zs.length ≤ 800 := by have := ZL.out; omega
          have ZN : nrm'.length + word'.length = zs.length := by have := congrArg List.length ZE.out; simpa using this
          have ZT := hide hzs
          have s1 := hide (src_append hw1)
          have s2 : nrm'.length + word'.length ≤ maxLen := by unfold maxLen; omega
          have s3 : (nrm'.length + word'.length) * 1 ≤ 140737488355328 := by omega
          have HO := hide ho
          have HZN := hide ZN
          clear hzs ho ZN hw1 hn1 hn2
          go_wp2_with (at_builtin; refine wpList_append_src _ rfl (.tmp 74) (.tmp 76) 25 rfl _ 5 i0 (.int .u8 0) 1 Try.underlying25 hi hz0 hz1 hz2 rfl _ nrm'.length (cellsB nrm') rfl HO.out wa word'.length wc (cellsB word') rfl (cellsB_length _) s1.out (ints_oneCell .u8 word') s2 s3 hb.size ?_)
          intro hv2 w8 ho2 hg2
          have hb8 : Below _ _ w8 := inv_held hb hg2 (fun k hk => own_ge HO.out hk)
          have hI8 := hI'.below hb8
          rw [HZN.out, ← cellsB_append, ZE.out] at ho2
          obtain ⟨ha, hc, rfl⟩ := own_slice ho2
          have r1 := hide (own_src ho2).2.1
          have r2 : Hid (Src w8 ta' zs) := by rw [ZT.out]; exact src_take (own_src hI8.own).2.1 800
          have q1 : (zs.length : Int) ≤ (tc' : Int) := by have := (own_src hI8.own).2.2.2.2; have := ZL.out; omega
          have q0 : (0 : Int) ≤ (zs.length : Int) := by omega
          have J := hide hI8
          clear hb8 hI8 hg2 ho2 HO hI6 hI' hb s1 ZT
          go_wp2_with fail
          refine (min_is told'.length zs ZL.out _).mono ?_
          rintro e w9 ⟨rfl, rfl⟩
          go_wp2_with fail
          refine (same_any ha ta' hc tc' zs _ r1.out r2.out (by omega)).mono ?_
          rintro e w10 ⟨rfl, nq, rfl⟩
          have J2 := hide (J.out.below (below_drewN (Below.refl _ _) nq))
          clear r1 r2 J
          go_wp2
          go_roundw
          case rel => exact ⟨k + 1, told', nrm', word', by omega, by go_num, htl', E'.out, J2.out⟩
          case measure => simp [intOf]; omega
        · go_wp2_with fail
          refine (inv_end hI hln).mono ?_
          rintro e w3' ⟨rfl, hJ'⟩
          go_wp2_with fail
          refine (inv_add c hJ').mono ?_
          rintro e w3 ⟨rfl, hJ⟩
          have hb3 := (Below.refl w3.heap.size w3).alloc (Nat.le_refl _) (.cells #[.int .u8 c] 5)
          have t1 : told.length + 1 ≤ maxLen := by unfold maxLen; omega
          have t2 : (told.length + 1) * 1 ≤ 140737488355328 := by omega
          have t3 : w2.heap.size + 1 ≤ (w3.alloc (.cells #[.int .u8 c] 5)).heap.size := by have := hJ.lt_size; simp; omega
          have t4 : ∀ u ∈ [Value.int .u8 c], u.oneCell' = true := by intro u hu; simp at hu; subst hu; rfl
          have T4 := hide t4
          clear t4
          go_wp2_with (at_builtin; refine wpList_append_lies _ rfl (.tmp 54) (.tmp 56) 25 rfl (w2.heap.size + 1) 5 i0 (.int .u8 0) 1 1 Try.underlying25 hi hz0 hz1 hz2 rfl (by decide) _ told.length (cellsB told) rfl (hJ.own.alloc _) ⟨w3.heap.size, 0, none⟩ 1 1 [.int .u8 c] rfl rfl (cell_one_new _ _ _) T4.out (by decide) t1 t2 t3 _ rfl ?_)
          intro g gc w4 hown hgrow hat hlt4
          obtain ⟨told', hT⟩ : ∃ told', told' = told ++ [c] := ⟨_, rfl⟩
          have hTl : told.length + 1 = told'.length := by rw [hT]; simp
          have hI0 := inv_told c hJ hb3 hown hgrow hat (by simp)
          rw [← hT, hTl] at hI0
          rw [hTl]
          have htl' : told'.length ≤ k + 1 := by omega
          obtain ⟨nrm', hN⟩ : ∃ nrm', nrm' = normIn (nrm ++ word) c := ⟨_, rfl⟩
          obtain ⟨word', hW⟩ : ∃ word', word' = ([] : List Int) := ⟨_, rfl⟩
          have E' : Hid (nrm' ++ word' = told'.take 800) := by rw [hN, hW, hT]; exact step_add _ _ _ E.out
          rw [← hW, ← hN] at hI0
          have hln' : nrm'.length + word'.length ≤ 800 := by have := congrArg List.length E'.out; simp at this; omega
          obtain ⟨ta', hta⟩ : ∃ ta', ta' = some (⟨g, 0, none⟩ : Addr) := ⟨_, rfl⟩
          obtain ⟨tc', htc⟩ : ∃ tc', tc' = gc := ⟨_, rfl⟩
          rw [← hta, ← htc] at hI0
          rw [← hta, ← htc]
          have hI' := hI0
          clear hown hgrow hat hlt4 hT hTl hN hW hta htc hI0 hJ hb3 hI t1 t2 t3 T4 E
          go_wp2_with fail
          refine (inv_getn hI').mono ?_
          rintro e w5 ⟨⟨na, nc, rfl, hn1, hn2⟩, rfl⟩
          go_wp2_with fail
          refine (clone_any na nc nrm' _ hn1 hn2 (by omega)).mono ?_
          rintro e w6 ⟨hv, rfl, ho, hb⟩
          have hI6 := hI'.below hb
          go_wp2_with fail
          refine (inv_getw hI6).mono ?_
          rintro e w7 ⟨⟨wa, wc, rfl, hw1⟩, rfl⟩
          obtain ⟨zs, hzs⟩ : ∃ zs, zs = told'.take 800 := ⟨_, rfl⟩
          have ZL := hide (show zs.length = min told'.length 800 by rw [hzs, List.length_take, Nat.min_comm])
          have ZE : Hid (nrm' ++ word' = zs) := by rw [hzs]; exact E'.out
          have ZM : zs.length ≤ 800 := by have := ZL.out; omega
          have ZN : nrm'.length + word'.length = zs.length := by have := congrArg List.length ZE.out; simpa using this
          have ZT := hide hzs
          have s1 := hide (src_append hw1)
          have s2 : nrm'.length + word'.length ≤ maxLen := by unfold maxLen; omega
          have s3 : (nrm'.length + word'.length) * 1 ≤ 140737488355328 := by omega
          have HO := hide ho
          have HZN := hide ZN
          clear hzs ho ZN hw1 hn1 hn2
          go_wp2_with (at_builtin; refine wpList_append_src _ rfl (.tmp 74) (.tmp 76) 25 rfl _ 5 i0 (.int .u8 0) 1 Try.underlying25 hi hz0 hz1 hz2 rfl _ nrm'.length (cellsB nrm') rfl HO.out wa word'.length wc (cellsB word') rfl (cellsB_length _) s1.out (ints_oneCell .u8 word') s2 s3 hb.size ?_)
          intro hv2 w8 ho2 hg2
          have hb8 : Below _ _ w8 := inv_held hb hg2 (fun k hk => own_ge HO.out hk)
          have hI8 := hI'.below hb8
          rw [HZN.out, ← cellsB_append, ZE.out] at ho2
          obtain ⟨ha, hc, rfl⟩ := own_slice ho2
          have r1 := hide (own_src ho2).2.1
          have r2 : Hid (Src w8 ta' zs) := by rw [ZT.out]; exact src_take (own_src hI8.own).2.1 800
          have q1 : (zs.length : Int) ≤ (tc' : Int) := by have := (own_src hI8.own).2.2.2.2; have := ZL.out; omega
          have q0 : (0 : Int) ≤ (zs.length : Int) := by omega
          have J := hide hI8
          clear hb8 hI8 hg2 ho2 HO hI6 hI' hb s1 ZT
          go_wp2_with fail
          refine (min_is told'.length zs ZL.out _).mono ?_
          rintro e w9 ⟨rfl, rfl⟩
          go_wp2_with fail
          refine (same_any ha ta' hc tc' zs _ r1.out r2.out (by omega)).mono ?_
          rintro e w10 ⟨rfl, nq, rfl⟩
          have J2 := hide (J.out.below (below_drewN (Below.refl _ _) nq))
          clear r1 r2 J
          go_wp2
          go_roundw
          case rel => exact ⟨k + 1, told', nrm', word', by omega, by go_num, htl', E'.out, J2.out⟩
          case measure => simp [intOf]; omega
      · have hmd : decide ((0 : Int) < (chars.length : Int)) = false := decide_eq_false (by omega)
        clear Q1
        rcases hcase with h1 | ⟨h1, h2⟩ | ⟨h1, h2⟩
        · go_wp2_with fail
          refine (inv_word 0 hI hln).mono ?_
          rintro e w3 ⟨rfl, hJ⟩
          have hb3 := (Below.refl w3.heap.size w3).alloc (Nat.le_refl _) (.cells #[.int .u8 0] 5)
          have t1 : told.length + 1 ≤ maxLen := by unfold maxLen; omega
          have t2 : (told.length + 1) * 1 ≤ 140737488355328 := by omega
          have t3 : w2.heap.size + 1 ≤ (w3.alloc (.cells #[.int .u8 0] 5)).heap.size := by have := hJ.lt_size; simp; omega
          have t4 : ∀ u ∈ [Value.int .u8 0], u.oneCell' = true := by intro u hu; simp at hu; subst hu; rfl
          have T4 := hide t4
          clear t4
          go_wp2_with (at_builtin; refine wpList_append_lies _ rfl (.tmp 63) (.tmp 65) 25 rfl (w2.heap.size + 1) 5 i0 (.int .u8 0) 1 1 Try.underlying25 hi hz0 hz1 hz2 rfl (by decide) _ told.length (cellsB told) rfl (hJ.own.alloc _) ⟨w3.heap.size, 0, none⟩ 1 1 [.int .u8 0] rfl rfl (cell_one_new _ _ _) T4.out (by decide) t1 t2 t3 _ rfl ?_)
          intro g gc w4 hown hgrow hat hlt4
          obtain ⟨told', hT⟩ : ∃ told', told' = told ++ [0] := ⟨_, rfl⟩
          have hTl : told.length + 1 = told'.length := by rw [hT]; simp
          have hI0 := inv_told 0 hJ hb3 hown hgrow hat (by simp)
          rw [← hT, hTl] at hI0
          rw [hTl]
          have htl' : told'.length ≤ k + 1 := by omega
          obtain ⟨nrm', hN⟩ : ∃ nrm', nrm' = nrm := ⟨_, rfl⟩
          obtain ⟨word', hW⟩ : ∃ word', word' = wordIn nrm word 0 := ⟨_, rfl⟩
          have E' : Hid (nrm' ++ word' = told'.take 800) := by rw [hN, hW, hT]; exact step_word _ _ _ _ E.out
          rw [← hW, ← hN] at hI0
          have hln' : nrm'.length + word'.length ≤ 800 := by have := congrArg List.length E'.out; simp at this; omega
          obtain ⟨ta', hta⟩ : ∃ ta', ta' = some (⟨g, 0, none⟩ : Addr) := ⟨_, rfl⟩
          obtain ⟨tc', htc⟩ : ∃ tc', tc' = gc := ⟨_, rfl⟩
          rw [← hta, ← htc] at hI0
          rw [← hta, ← htc]
          have hI' := hI0
          clear hown hgrow hat hlt4 hT hTl hN hW hta htc hI0 hJ hb3 hI t1 t2 t3 T4 E
          go_wp2_with fail
          refine (inv_getn hI').mono ?_
          rintro e w5 ⟨⟨na, nc, rfl, hn1, hn2⟩, rfl⟩
          go_wp2_with fail
          refine (clone_any na nc nrm' _ hn1 hn2 (by omega)).mono ?_
          rintro e w6 ⟨hv, rfl, ho, hb⟩
          have hI6 := hI'.below hb
          go_wp2_with fail
          refine (inv_getw hI6).mono ?_
          rintro e w7 ⟨⟨wa, wc, rfl, hw1⟩, rfl⟩
          obtain ⟨zs, hzs⟩ : ∃ zs, zs = told'.take 800 := ⟨_, rfl⟩
          have ZL := hide (show zs.length = min told'.length 800 by rw [hzs, List.length_take, Nat.min_comm])
          have ZE : Hid (nrm' ++ word' = zs) := by rw [hzs]; exact E'.out
          have ZM : zs.length ≤ 800 := by have := ZL.out; omega
          have ZN : nrm'.length + word'.length = zs.length := by have := congrArg List.length ZE.out; simpa using this
          have ZT := hide hzs
          have s1 := hide (src_append hw1)
          have s2 : nrm'.length + word'.length ≤ maxLen := by unfold maxLen; omega
          have s3 : (nrm'.length + word'.length) * 1 ≤ 140737488355328 := by omega
          have HO := hide ho
          have HZN := hide ZN
          clear hzs ho ZN hw1 hn1 hn2
          go_wp2_with (at_builtin; refine wpList_append_src _ rfl (.tmp 74) (.tmp 76) 25 rfl _ 5 i0 (.int .u8 0) 1 Try.underlying25 hi hz0 hz1 hz2 rfl _ nrm'.length (cellsB nrm') rfl HO.out wa word'.length wc (cellsB word') rfl (cellsB_length _) s1.out (ints_oneCell .u8 word') s2 s3 hb.size ?_)
          intro hv2 w8 ho2 hg2
          have hb8 : Below _ _ w8 := inv_held hb hg2 (fun k hk => own_ge HO.out hk)
          have hI8 := hI'.below hb8
          rw [HZN.out, ← cellsB_append, ZE.out] at ho2
          obtain ⟨ha, hc, rfl⟩ := own_slice ho2
          have r1 := hide (own_src ho2).2.1
          have r2 : Hid (Src w8 ta' zs) := by rw [ZT.out]; exact src_take (own_src hI8.own).2.1 800
          have q1 : (zs.length : Int) ≤ (tc' : Int) := by have := (own_src hI8.own).2.2.2.2; have := ZL.out; omega
          have q0 : (0 : Int) ≤ (zs.length : Int) := by omega
          have J := hide hI8
          clear hb8 hI8 hg2 ho2 HO hI6 hI' hb s1 ZT
          go_wp2_with fail
          refine (min_is told'.length zs ZL.out _).mono ?_
          rintro e w9 ⟨rfl, rfl⟩
          go_wp2_with fail
          refine (same_any ha ta' hc tc' zs _ r1.out r2.out (by omega)).mono ?_
          rintro e w10 ⟨rfl, nq, rfl⟩
          have J2 := hide (J.out.below (below_drewN (Below.refl _ _) nq))
          clear r1 r2 J
          go_wp2
          go_roundw
          case rel => exact ⟨k + 1, told', nrm', word', by omega, by go_num, htl', E'.out, J2.out⟩
          case measure => simp [intOf]; omega
        · go_wp2_with fail
          refine (inv_end hI hln).mono ?_
          rintro e w3 ⟨rfl, hJ⟩
          obtain ⟨nrm', hN⟩ : ∃ nrm', nrm' = nrm ++ word := ⟨_, rfl⟩
          obtain ⟨word', hW⟩ : ∃ word' : List Int, word' = [] := ⟨_, rfl⟩
          obtain ⟨told', hT⟩ : ∃ told', told' = told := ⟨_, rfl⟩
          have E' : Hid (nrm' ++ word' = told'.take 800) := by rw [hN, hW, hT, List.append_nil]; exact E.out
          have htl' : told'.length ≤ k + 1 := by rw [hT]; omega
          rw [← hN, ← hW, ← hT] at hJ
          rw [← hT]
          have hln' : nrm'.length + word'.length ≤ 800 := by have := congrArg List.length E'.out; simp at this; omega
          obtain ⟨ta', hta⟩ : ∃ ta', ta' = ta := ⟨_, rfl⟩
          obtain ⟨tc', htc⟩ : ∃ tc', tc' = tc := ⟨_, rfl⟩
          rw [← hta, ← htc] at hJ
          rw [← hta, ← htc]
          have hI' := hJ
          clear hT hN hW hta htc hJ hI E
          go_wp2_with fail
          refine (inv_getn hI').mono ?_
          rintro e w5 ⟨⟨na, nc, rfl, hn1, hn2⟩, rfl⟩
          go_wp2_with fail
          refine (clone_any na nc nrm' _ hn1 hn2 (by omega)).mono ?_
          rintro e w6 ⟨hv, rfl, ho, hb⟩
          have hI6 := hI'.below hb
          go_wp2_with fail
          refine (inv_getw hI6).mono ?_
          rintro e w7 ⟨⟨wa, wc, rfl, hw1⟩, rfl⟩
          obtain ⟨zs, hzs⟩ : ∃ zs, zs = told'.take 800 := ⟨_, rfl⟩
          have ZL := hide (show zs.length = min told'.length 800 by rw [hzs, List.length_take, Nat.min_comm])
          have ZE : Hid (nrm' ++ word' = zs) := by rw [hzs]; exact E'.out
          have ZM : zs.length ≤ 800 := by have := ZL.out; omega
          have ZN : nrm'.length + word'.length = zs.length := by have := congrArg List.length ZE.out; simpa using this
          have ZT := hide hzs
          have s1 := hide (src_append hw1)
          have s2 : nrm'.length + word'.length ≤ maxLen := by unfold maxLen; omega
          have s3 : (nrm'.length + word'.length) * 1 ≤ 140737488355328 := by omega
          have HO := hide ho
          have HZN := hide ZN
          clear hzs ho ZN hw1 hn1 hn2
          go_wp2_with (at_builtin; refine wpList_append_src _ rfl (.tmp 74) (.tmp 76) 25 rfl _ 5 i0 (.int .u8 0) 1 Try.underlying25 hi hz0 hz1 hz2 rfl _ nrm'.length (cellsB nrm') rfl HO.out wa word'.length wc (cellsB word') rfl (cellsB_length _) s1.out (ints_oneCell .u8 word') s2 s3 hb.size ?_)
          intro hv2 w8 ho2 hg2
          have hb8 : Below _ _ w8 := inv_held hb hg2 (fun k hk => own_ge HO.out hk)
          have hI8 := hI'.below hb8
          rw [HZN.out, ← cellsB_append, ZE.out] at ho2
          obtain ⟨ha, hc, rfl⟩ := own_slice ho2
          have r1 := hide (own_src ho2).2.1
          have r2 : Hid (Src w8 ta' zs) := by rw [ZT.out]; exact src_take (own_src hI8.own).2.1 800
          have q1 : (zs.length : Int) ≤ (tc' : Int) := by have := (own_src hI8.own).2.2.2.2; have := ZL.out; omega
          have q0 : (0 : Int) ≤ (zs.length : Int) := by omega
          have J := hide hI8
          clear hb8 hI8 hg2 ho2 HO hI6 hI' hb s1 ZT
          go_wp2_with fail
          refine (min_is told'.length zs ZL.out _).mono ?_
          rintro e w9 ⟨rfl, rfl⟩
          go_wp2_with fail
          refine (same_any ha ta' hc tc' zs _ r1.out r2.out (by omega)).mono ?_
          rintro e w10 ⟨rfl, nq, rfl⟩
          have J2 := hide (J.out.below (below_drewN (Below.refl _ _) nq))
          clear r1 r2 J
          go_wp2
          go_roundw
          case rel => exact ⟨k + 1, told', nrm', word', by omega, by go_num, htl', E'.out, J2.out⟩
          case measure => simp [intOf]; omega
        · go_wp2_with fail
          refine (inv_end hI hln).mono ?_
          rintro e w3' ⟨rfl, hJ'⟩
          go_wp2_with fail
          refine (inv_add 0 hJ').mono ?_
          rintro e w3 ⟨rfl, hJ⟩
          have hb3 := (Below.refl w3.heap.size w3).alloc (Nat.le_refl _) (.cells #[.int .u8 0] 5)
          have t1 : told.length + 1 ≤ maxLen := by unfold maxLen; omega
          have t2 : (told.length + 1) * 1 ≤ 140737488355328 := by omega
          have t3 : w2.heap.size + 1 ≤ (w3.alloc (.cells #[.int .u8 0] 5)).heap.size := by have := hJ.lt_size; simp; omega
          have t4 : ∀ u ∈ [Value.int .u8 0], u.oneCell' = true := by intro u hu; simp at hu; subst hu; rfl
          have T4 := hide t4
          clear t4
          go_wp2_with (at_builtin; refine wpList_append_lies _ rfl (.tmp 54) (.tmp 56) 25 rfl (w2.heap.size + 1) 5 i0 (.int .u8 0) 1 1 Try.underlying25 hi hz0 hz1 hz2 rfl (by decide) _ told.length (cellsB told) rfl (hJ.own.alloc _) ⟨w3.heap.size, 0, none⟩ 1 1 [.int .u8 0] rfl rfl (cell_one_new _ _ _) T4.out (by decide) t1 t2 t3 _ rfl ?_)
          intro g gc w4 hown hgrow hat hlt4
          obtain ⟨told', hT⟩ : ∃ told', told' = told ++ [0] := ⟨_, rfl⟩
          have hTl : told.length + 1 = told'.length := by rw [hT]; simp
          have hI0 := inv_told 0 hJ hb3 hown hgrow hat (by simp)
          rw [← hT, hTl] at hI0
          rw [hTl]
          have htl' : told'.length ≤ k + 1 := by omega
          obtain ⟨nrm', hN⟩ : ∃ nrm', nrm' = normIn (nrm ++ word) 0 := ⟨_, rfl⟩
          obtain ⟨word', hW⟩ : ∃ word', word' = ([] : List Int) := ⟨_, rfl⟩
          have E' : Hid (nrm' ++ word' = told'.take 800) := by rw [hN, hW, hT]; exact step_add _ _ _ E.out
          rw [← hW, ← hN] at hI0
          have hln' : nrm'.length + word'.length ≤ 800 := by have := congrArg List.length E'.out; simp at this; omega
          obtain ⟨ta', hta⟩ : ∃ ta', ta' = some (⟨g, 0, none⟩ : Addr) := ⟨_, rfl⟩
          obtain ⟨tc', htc⟩ : ∃ tc', tc' = gc := ⟨_, rfl⟩
          rw [← hta, ← htc] at hI0
          rw [← hta, ← htc]
          have hI' := hI0
          clear hown hgrow hat hlt4 hT hTl hN hW hta htc hI0 hJ hb3 hI t1 t2 t3 T4 E
          go_wp2_with fail
          refine (inv_getn hI').mono ?_
          rintro e w5 ⟨⟨na, nc, rfl, hn1, hn2⟩, rfl⟩
          go_wp2_with fail
          refine (clone_any na nc nrm' _ hn1 hn2 (by omega)).mono ?_
          rintro e w6 ⟨hv, rfl, ho, hb⟩
          have hI6 := hI'.below hb
          go_wp2_with fail
          refine (inv_getw hI6).mono ?_
          rintro e w7 ⟨⟨wa, wc, rfl, hw1⟩, rfl⟩
          obtain ⟨zs, hzs⟩ : ∃ zs, zs = told'.take 800 := ⟨_, rfl⟩
          have ZL := hide (show zs.length = min told'.length 800 by rw [hzs, List.length_take, Nat.min_comm])
          have ZE : Hid (nrm' ++ word' = zs) := by rw [hzs]; exact E'.out
          have ZM : zs.length ≤ 800 := by have := ZL.out; omega
          have ZN : nrm'.length + word'.length = zs.length := by have := congrArg List.length ZE.out; simpa using this
          have ZT := hide hzs
          have s1 := hide (src_append hw1)
          have s2 : nrm'.length + word'.length ≤ maxLen := by unfold maxLen; omega
          have s3 : (nrm'.length + word'.length) * 1 ≤ 140737488355328 := by omega
          have HO := hide ho
          have HZN := hide ZN
          clear hzs ho ZN hw1 hn1 hn2
          go_wp2_with (at_builtin; refine wpList_append_src _ rfl (.tmp 74) (.tmp 76) 25 rfl _ 5 i0 (.int .u8 0) 1 Try.underlying25 hi hz0 hz1 hz2 rfl _ nrm'.length (cellsB nrm') rfl HO.out wa word'.length wc (cellsB word') rfl (cellsB_length _) s1.out (ints_oneCell .u8 word') s2 s3 hb.size ?_)
          intro hv2 w8 ho2 hg2
          have hb8 : Below _ _ w8 := inv_held hb hg2 (fun k hk => own_ge HO.out hk)
          have hI8 := hI'.below hb8
          rw [HZN.out, ← cellsB_append, ZE.out] at ho2
          obtain ⟨ha, hc, rfl⟩ := own_slice ho2
          have r1 := hide (own_src ho2).2.1
          have r2 : Hid (Src w8 ta' zs) := by rw [ZT.out]; exact src_take (own_src hI8.own).2.1 800
          have q1 : (zs.length : Int) ≤ (tc' : Int) := by have := (own_src hI8.own).2.2.2.2; have := ZL.out; omega
          have q0 : (0 : Int) ≤ (zs.length : Int) := by omega
          have J := hide hI8
          clear hb8 hI8 hg2 ho2 HO hI6 hI' hb s1 ZT
          go_wp2_with fail
          refine (min_is told'.length zs ZL.out _).mono ?_
          rintro e w9 ⟨rfl, rfl⟩
          go_wp2_with fail
          refine (same_any ha ta' hc tc' zs _ r1.out r2.out (by omega)).mono ?_
          rintro e w10 ⟨rfl, nq, rfl⟩
          have J2 := hide (J.out.below (below_drewN (Below.refl _ _) nq))
          clear r1 r2 J
          go_wp2
          go_roundw
          case rel => exact ⟨k + 1, told', nrm', word', by omega, by go_num, htl', E'.out, J2.out⟩
          case measure => simp [intOf]; omega
    · go_wp2_with fail
      refine (inv_end hI hln).mono ?_
      rintro e w3 ⟨rfl, hJ⟩
      obtain ⟨zs, hzs⟩ : ∃ zs, zs = nrm ++ word := ⟨_, rfl⟩
      rw [← hzs] at hJ
      have ZT : Hid (zs = told.take 800) := by rw [hzs]; exact E.out
      have ZL := hide (show zs.length = min told.length 800 by rw [ZT.out, List.length_take, Nat.min_comm])
      have ZM : zs.length ≤ 800 := by have := ZL.out; omega
      have q1 : (zs.length : Int) ≤ (tc : Int) := by have := (own_src hJ.own).2.2.2.2; have := ZL.out; omega
      have q0 : (0 : Int) ≤ (zs.length : Int) := by omega
      have r2 : Hid (Src w3 ta zs) := by rw [ZT.out]; exact src_take (own_src hJ.own).2.1 800
      clear hzs hI E Q0 Q1
      go_wp2_with fail
      refine (inv_getw hJ).mono ?_
      rintro e w4 ⟨⟨wa, wc, rfl, _⟩, rfl⟩
      go_wp2_with fail
      refine (inv_getn hJ).mono ?_
      rintro e w5 ⟨⟨na, nc, rfl, _, hn2⟩, rfl⟩
      have r1 := hide hn2
      have J := hide hJ
      clear hn2 hJ
      go_wp2_with fail
      refine (min_is told.length zs ZL.out _).mono ?_
      rintro e w6 ⟨rfl, rfl⟩
      go_wp2_with fail
      refine (same_any na ta nc tc zs _ r1.out r2.out (by omega)).mono ?_
      rintro e w7 ⟨rfl, nq, rfl⟩
      go_wp2
      go_ret
      exact ⟨rfl, below_drewN (BB.out.trans (J.out.bel.mono BB.out.size)) nq⟩

/-- WHAT THE ROW's FRAME TELLS OF A SLICE OF BYTES THAT CAME IN -/
def Row (w : World) (a : Option Addr) (len cap : Nat) (zs : List Int) : Prop :=
  (a = none ∧ len = 0 ∧ cap = 0 ∧ zs = []) ∨
  ∃ x, a = some x ∧ len ≤ cap ∧ cap ≤ maxLen ∧ zs.length = cap ∧ (∀ i, i < zs.length → w.cell? (x.add i) = some (.int .u8 (zs.getD i 0))) ∧ ∀ n ∈ zs, (Lit.int .u8 n).wf = true

theorem getD_bounds {zs : List Int} (h : ∀ n ∈ zs, (Lit.int .u8 n).wf = true) (i : Nat) : 0 ≤ zs.getD i 0 ∧ zs.getD i 0 ≤ 255 := by
  have := range_u8 h i
  simpa [List.getD] using this

theorem Row.parts {w : World} {a : Option Addr} {len cap : Nat} {zs : List Int} (h : Row w a len cap zs) :
    (a = none → zs.take len = [] ∧ cap = 0) ∧ Src w a (zs.take len) ∧ (zs.take len).length = len ∧ len ≤ maxLen ∧ ∀ i, 0 ≤ (zs.take len).getD i 0 ∧ (zs.take len).getD i 0 ≤ 255 := by
  rcases h with ⟨rfl, rfl, rfl, rfl⟩ | ⟨x, rfl, hl, hm, hz, hc, hw⟩
  · exact ⟨fun _ => ⟨rfl, rfl⟩, .inl rfl, rfl, Nat.zero_le _, fun i => by simp⟩
  · refine ⟨fun e => (by simp at e), ?_, by simp; omega, by omega, getD_bounds fun n hn => hw n (List.mem_of_mem_take hn)⟩
    by_cases h0 : len = 0
    · subst h0; exact .inl rfl
    · obtain ⟨b, off, spot⟩ := x
      have hc0 := hc 0 (by omega)
      have hspot : spot = none := by simpa [Addr.add] using World.cell?_spot hc0
      subst hspot
      have e1 : ∀ i, (⟨b, off, none⟩ : Addr).add i = ⟨b, off + i, none⟩ := fun i => by unfold Addr.add; split <;> simp_all
      refine .inr ⟨b, off, rfl, ?_, fun i hi => ?_⟩
      · rw [e1] at hc0
        exact World.block_lt_of_cell? w _ hc0
      · have hi2 : i < min len zs.length := by simpa using hi
        have hi1 : i < len := by omega
        have := hc i (by omega)
        rw [e1] at this
        rw [this]
        simp [List.getD, List.getElem?_take_of_lt hi1]

set_option maxHeartbeats 400000 in
theorem walk_long (a0 a1 : Option Addr) (n0 cap0 n1 cap1 : Nat) (w : World) (m0 : n0 ≤ maxLen) (m1 : n1 ≤ maxLen) (h : ¬ (n0 ≤ 65536 ∧ n1 ≤ 65536)) :
    Calls Try.prog 6 #[.slice a0 n0 cap0, .slice a1 n1 cap1] w fun e w' => e = .returned (.bool true) ∧ Below w.heap.size w w' := by
  by_cases hb : n0 + n1 ≤ 1048576
  · by_cases h0 : (65536 : Int) < (n0 : Int)
    · go_enter Try.func6, Try.ntmps6
      go_wp2_with (go_at_call 30; refine (bytes_yes _ _ _ _ _ _ _ hb).mono ?_; rintro e w' ⟨rfl, rfl⟩)
      go_ret
      exact ⟨rfl, Below.refl _ _⟩
    · have h1 : (65536 : Int) < (n1 : Int) := by omega
      go_enter Try.func6, Try.ntmps6
      go_wp2_with (go_at_call 30; refine (bytes_yes _ _ _ _ _ _ _ hb).mono ?_; rintro e w' ⟨rfl, rfl⟩)
      go_ret
      exact ⟨rfl, Below.refl _ _⟩
  · go_enter Try.func6, Try.ntmps6
    go_wp2_with (go_at_call 30; refine (bytes_no _ _ _ _ _ _ _ hb m0 m1).mono ?_; rintro e w' ⟨rfl, rfl⟩)
    go_ret
    exact ⟨rfl, Below.refl _ _⟩

theorem walk (a0 : Option Addr) (len0 cap0 : Nat) (z0 : List Int) (a1 : Option Addr) (len1 cap1 : Nat) (z1 : List Int) (w : World) (w0 : Row w a0 len0 cap0 z0) (w1 : Row w a1 len1 cap1 z1) :
    Calls Try.prog 6 #[.slice a0 len0 cap0, .slice a1 len1 cap1] w fun e w' => e = .returned (.bool true) ∧ Below w.heap.size w w' := by
  obtain ⟨n0, s0, l0, m0, b0⟩ := w0.parts
  obtain ⟨n1, s1, l1, m1, b1⟩ := w1.parts
  by_cases h : len0 ≤ 65536 ∧ len1 ≤ 65536
  · have := walk_main a0 a1 cap0 cap1 (z0.take len0) (z1.take len1) w n0 n1 s0 s1 (by omega) (by omega) b0 b1
    rw [l0, l1] at this
    exact this
  · exact walk_long a0 a1 len0 cap0 len1 cap1 w m0 m1 h

end Go.Proofs.Qxb6003698a.Scan
