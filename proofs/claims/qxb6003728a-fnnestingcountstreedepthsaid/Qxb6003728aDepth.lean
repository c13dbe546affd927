/-
  The walk of FnNestingCountsTreeDepth (6).
-/
import Derived.Test.Qxb6003728aSteps
import Derived.Deep.CutBlock
import Derived.Deep.LoopGhost
import Derived.Outline
namespace Go.Proofs.Qxb6003728a.Depth
open Go.RowKit Go.Proofs.Qxb6003728a.NestLaw Go.Proofs.Qxb6003728a.Tree Go.Proofs.Qxb6003728a.Pieces Go.Proofs.Qxb6003728a.Steps Go.Proofs.Qxb6003728a.Nesting
open Go.Proofs.Qxb6003728a.Clone (Src hide info5 clone_any)

theorem info3 : (Try.prog.info? 3).map (fun i => (i.zero, i.size, i.bytes)) = some (some (.int .i64 0), 1, 8) := by kernel_rfl

theorem sc_num : Lib.strCells { data := #[45, 49, 50, 46, 53, 101, 43, 51] } = cellsB [45, 49, 50, 46, 53, 101, 43, 51] := by rfl
theorem sc_true : Lib.strCells { data := #[116, 114, 117, 101] } = cellsB [116, 114, 117, 101] := by rfl
theorem sc_false : Lib.strCells { data := #[102, 97, 108, 115, 101] } = cellsB [102, 97, 108, 115, 101] := by rfl
theorem sc_null : Lib.strCells { data := #[110, 117, 108, 108] } = cellsB [110, 117, 108, 108] := by rfl

theorem src_below {w w' : World} {a : Option Addr} {zs : List Int} (h : Src w a zs) (hb : Below w.heap.size w w') : Src w' a zs := by
  rcases h with h | ⟨b, off, e, hlt, hc⟩
  · exact .inl h
  · exact .inr ⟨b, off, e, Nat.lt_of_lt_of_le hlt hb.size, fun i hi => (hb.cell (p := ⟨b, off + i, none⟩) hlt).trans (hc i hi)⟩

set_option maxRecDepth 1000000 in
set_option maxHeartbeats 8000000 in
theorem walk_main (a0 a1 : Option Addr) (cap0 cap1 : Nat) (ops chars : List Int) (w : World) (n0 : a0 = none → ops = [] ∧ cap0 = 0) (n1 : a1 = none → chars = [] ∧ cap1 = 0) (s0 : Src w a0 ops) (s1 : Src w a1 chars)
    (m0 : ops.length ≤ 4096) (m1 : chars.length ≤ 4096) (hw0 : ∀ i, 0 ≤ ops.getD i 0 ∧ ops.getD i 0 ≤ 255) (hw1 : ∀ i, 0 ≤ chars.getD i 0 ∧ chars.getD i 0 ≤ 255) :
    Calls Try.prog 6 #[.slice a0 ops.length cap0, .slice a1 chars.length cap1] w fun e w' => e = .returned (.bool true) ∧ Below w.heap.size w w' := by
  obtain ⟨i0, hi, hz0, hz1, hz2⟩ := info_parts info5
  obtain ⟨j0, ji, jz0, jz1, jz2⟩ := info_parts info3
  have d0 : decide ((4096 : Int) < (ops.length : Int)) = false := decide_eq_false (by omega)
  have d1 : decide ((4096 : Int) < (chars.length : Int)) = false := decide_eq_false (by omega)
  have S0 := hide s0
  have S1 := hide s1
  have N0 := hide n0
  have N1 := hide n1
  have V0 := hide hw0
  have V1 := hide hw1
  clear s0 s1 n0 n1 hw0 hw1
  go_enter Try.func6, Try.ntmps6
  go_wp2_with (go_at_call 13; refine (bytes_yes _ _ _ _ _ _ _ (by omega)).mono ?_; rintro e w' ⟨rfl, rfl⟩)
  refine (clone_any _ _ _ _ N0.out S0.out (by omega)).mono ?_
  rintro e w1 ⟨v0, rfl, ho0, hb0⟩
  have S1' := hide (src_below S1.out hb0)
  obtain ⟨b0, c0, rfl⟩ := own_slice ho0
  have O0 := hide ho0
  have B0 := hide hb0
  clear S0 S1 ho0 hb0
  go_wp2_with fail
  refine (clone_any _ _ _ _ N1.out S1'.out (by omega)).mono ?_
  rintro e W0 ⟨v1, rfl, ho1, hb1⟩
  obtain ⟨b1, c1, rfl⟩ := own_slice ho1
  have Q0 := hide (src_below (own_src O0.out) hb1)
  have Q1 := hide (own_src ho1)
  have BB := hide (B0.out.trans (hb1.mono B0.out.size))
  clear S1' ho1 hb1 O0 B0
  go_upto_block 0 with fail
  go_cut [5, 6, 8] (fun ov kv dp wf => ∃ (dd : Int) (out kinds : List Int), dp = .int .i64 dd ∧ FinSt W0 ov kv dd out kinds wf)
  case first =>
    go_wp2_with fail
    go_loopg [5, 6, 7, 8, 9, 33] ops.length (fun gk ov kv iv dp cu i wr => ∃ (k cu' : Nat) (dd : Int) (out kinds items : List Int), k ≤ ops.length ∧ gk = ops.length - k ∧ i = .int .i64 k ∧ cu = .int .i64 cu' ∧ dp = .int .i64 dd ∧ LoopSt W0 chars.length k ov kv iv cu' dd out kinds items wr)
    case atStart => exact ⟨0, 0, 0, [], [], [], by omega, by omega, rfl, rfl, rfl, loop_start W0 _⟩
    case round =>
      obtain ⟨k, cu, dd, out, kinds, items, hk, hgk, rfl, rfl, rfl, hL⟩ := hrel
      have LL := hide hL
      have GK := hide hgk
      have e0 := hL.d0
      have e1 := hL.d1
      have e2 := hL.kle
      have e3 := hL.ole
      have e4 := hL.cu_le
      clear hL hgk
      by_cases hlt : k < ops.length
      · obtain ⟨g0, o0, rfl, hg0, hc0⟩ := src_cell Q0.out hlt
        obtain ⟨z, hz⟩ : ∃ z, z = ops.getD k 0 := ⟨_, rfl⟩
        have x0 : wr.cell? ⟨g0, o0 + k, none⟩ = some (.int .u8 z) := by rw [hz]; exact (LL.out.tree.bel.cell (p := ⟨g0, o0 + k, none⟩) hg0).trans hc0
        have z0 : 0 ≤ z := by rw [hz]; exact (V0.out k).1
        have z1 : z ≤ 255 := by rw [hz]; exact (V0.out k).2
        clear hz hc0 Q0 V0
        by_cases h7 : z % 8 = 7
        · have v7 : (z % 8 == 7) = true := beq_iff_eq.2 h7
          clear h7
          by_cases hk0 : kinds = []
          · subst hk0
            obtain ⟨ka, kc, hkv⟩ := own_slice LL.out.tree.k
            subst hkv
            go_wp2
            go_roundg (ops.length - (k + 1))
            case measure => have := GK.out; omega
            case rel => exact ⟨k + 1, cu, dd, out, [], items, by omega, by omega, by go_num, rfl, rfl, LL.out.next⟩
          · obtain ⟨ks, kt, rfl⟩ := snoc_of hk0
            have hln := LL.out.len
            obtain ⟨is, it, rfl⟩ : ∃ r t, items = r ++ [t] := snoc_of (by intro e; rw [e] at hln; simp at hln)
            have hn : is.length = ks.length := by simpa using hln
            obtain ⟨gk2, ck, hkv, hkc⟩ := kind_form LL.out.tree
            subst hkv
            obtain ⟨gi, ci, hiv, hic⟩ := item_form' LL.out.tree hn
            subst hiv
            obtain ⟨oa, oc, hov⟩ := own_slice LL.out.tree.o
            subst hov
            have hks : ks.length + 1 ≤ k := by simpa using e2
            have HN := hide hn
            clear hk0 hln hn e2
            go_wp2_with fail
            refine (close_top LL.out.tree LL.out.kin (by omega) (by omega)).mono ?_
            rintro e w5 ⟨g5, c5, out5, rfl, hT5, hl5, hp5, hR5⟩
            have T6 := hide (pop_item' hT5 HN.out)
            have R6 := hide (hR5 dd LL.out.scan)
            have K6 : Hid (Kinds ks) := fun c hc => LL.out.kin c (by simp [hc])
            have y1 : (0 : Int) ≤ (ks.length : Int) := by omega
            have y2 : (ks.length : Int) ≤ (ck : Int) := by omega
            have y3 : (ks.length : Int) ≤ (ci : Int) := by omega
            clear hT5 hR5 LL
            by_cases hk1 : ks = []
            · subst hk1
              go_wp2
              go_meet
              case rel => exact ⟨dd, out5, [], rfl, ⟨_, _, T6.out⟩, e0, by omega, by simp, by simp; omega, K6.out, R6.out⟩
            · have hpos : 0 < ks.length := List.length_pos_iff.2 hk1
              have v8 : ((ks.length : Int) == 0) = false := beq_eq_false_iff_ne.2 (by omega)
              go_wp2
              go_roundg (ops.length - (k + 1))
              case measure => have := GK.out; omega
              case rel => exact ⟨k + 1, cu, dd, out5, ks, is, by omega, by omega, by go_num, rfl, rfl, e4, e0, by omega, T6.out, HN.out, by omega, by omega, K6.out, R6.out⟩
        · have v7 : (z % 8 == 7) = false := beq_eq_false_iff_ne.2 h7
          obtain ⟨ka, kc, hkv⟩ := own_slice LL.out.tree.k
          subst hkv
          go_upto_if 62 with fail
          go_cut [5, 9] (fun o c w2 => ∃ (cu2 : Nat) (out2 items2 : List Int), c = .int .i64 cu2 ∧ Mid W0 chars.length k o (.slice ka kinds.length kc) u7 cu2 dd out2 kinds items2 w2)
          case first =>
            by_cases hk0 : kinds = []
            · subst hk0
              go_wp2
              go_meet
              case rel => exact ⟨cu, out, items, rfl, LL.out.mid⟩
            · have hp : 0 < kinds.length := List.length_pos_iff.2 hk0
              obtain ⟨gk2, hka⟩ := kind_is LL.out.tree hp
              subst hka
              obtain ⟨gi, ci, hiv, hic⟩ := item_is LL.out.tree LL.out.len hp
              subst hiv
              obtain ⟨oa, oc, hov⟩ := own_slice LL.out.tree.o
              subst hov
              obtain ⟨it, hit⟩ : ∃ it, it = items.getD (kinds.length - 1) 0 := ⟨_, rfl⟩
              have hpI : (0 : Int) < (kinds.length : Int) := by omega
              have bb0 : (0 : Int) ≤ (kinds.length : Int) - 1 := by omega
              have bb1 : (kinds.length : Int) - 1 < (kinds.length : Int) := by omega
              have ic := (item_at LL.out.tree LL.out.len (kinds.length - 1) (by omega)).1
              rw [← hit] at ic
              have ic2 : wr.cell? ⟨gi, ((kinds.length : Int) - 1).toNat, none⟩ = some (.int .i64 it) := by
                rw [show ((kinds.length : Int) - 1).toNat = kinds.length - 1 by omega]; exact ic
              clear hit hk0
              go_upto_if 70 with fail
              go_cut [5] (fun o w3 => ∃ (out3 : List Int), Tree W0.heap.size W0 o (.slice (some ⟨gk2, 0, none⟩) kinds.length kc) (.slice (some ⟨gi, 0, none⟩) kinds.length ci) out3 kinds items w3 ∧ out3.length ≤ out.length + 1 ∧ R out3 dd (jq kinds))
              case first =>
                have TQ := hide LL.out.tree
                by_cases hpos : 0 < it
                · clear ic ic2
                  have ALB := hide ((Below.refl wr.heap.size wr).alloc (Nat.le_refl _) (.cells #[.int .u8 44] 5))
                  have t1 : out.length + 1 ≤ maxLen := by unfold maxLen; omega
                  have t2 : (out.length + 1) * 1 ≤ 140737488355328 := by omega
                  have t3 : W0.heap.size ≤ (wr.alloc (.cells #[.int .u8 44] 5)).heap.size := by have := TQ.out.le; simp; omega
                  have TU : Hid (∀ u ∈ [Value.int .u8 44], u.oneCell' = true) := by intro u hu; simp at hu; subst hu; rfl
                  go_wp2_with (at_builtin; refine wpList_append_lies _ rfl (.tmp 71) (.tmp 72) 23 rfl W0.heap.size 5 i0 (.int .u8 0) 1 1 Try.underlying23 hi hz0 hz1 hz2 rfl (by decide) _ out.length (cellsB out) rfl (TQ.out.o.alloc _) ⟨_, 0, none⟩ 1 1 [.int .u8 44] rfl rfl (cell_one_new _ _ _) TU.out (by decide) t1 t2 t3 _ rfl ?_)
                  intro g1 c1 w1 hown' hgrow' hat' hlt'
                  have TN := TQ.out.push_out (news := [44]) ALB.out rfl hown' hgrow' hat' (by simp)
                  obtain ⟨out1, hO⟩ : ∃ o', o' = out ++ [44] := ⟨_, rfl⟩
                  have hL : out.length + 1 = out1.length := by rw [hO]; simp
                  rw [← hO] at TN
                  rw [hL]
                  have T1 := hide TN
                  have O1 := hide hO
                  have L1 : out1.length ≤ out.length + 1 := Nat.le_of_eq hL.symm
                  clear TN hO hL hown' hgrow' hat' hlt' ALB t1 t2 t3 TU 
                  go_wp2
                  go_meet
                  case rel => exact ⟨out1, T1.out, L1, by rw [O1.out]; exact R_plain LL.out.scan (by decide) (by decide) (by decide) (by decide) (by decide)⟩
                · have hdp : decide (0 < it) = false := decide_eq_false hpos
                  go_wp2
                  go_meet
                  case rel => exact ⟨out, TQ.out, by omega, LL.out.scan⟩
              case rest =>
                obtain ⟨out3, hT3, hl3, hR3⟩ := hcut
                obtain ⟨ic3, if3⟩ := item_at hT3 LL.out.len (kinds.length - 1) (by omega)
                obtain ⟨it3, hit3⟩ : ∃ it3, it3 = items.getD (kinds.length - 1) 0 := ⟨_, rfl⟩
                rw [← hit3] at ic3
                have ic4 : wc.cell? ⟨gi, ((kinds.length : Int) - 1).toNat, none⟩ = some (.int .i64 it3) := by
                  rw [show ((kinds.length : Int) - 1).toNat = kinds.length - 1 by omega]; exact ic3
                have if4 : wc.frozen? ⟨gi, ((kinds.length : Int) - 1).toNat, none⟩ = false := by
                  rw [show ((kinds.length : Int) - 1).toNat = kinds.length - 1 by omega]; exact if3
                have T3 := hide hT3
                have R3 := hide hR3
                clear hT3 hR3 hit3 ic ic2
                go_upto_region 27 with fail
                obtain ⟨items4, hl4, hT4⟩ := set_any T3.out LL.out.len (kinds.length - 1) (wrap64 (it3 + 1))
                obtain ⟨w4, hw4⟩ : ∃ w4, w4 = wc.setCell ⟨gi, kinds.length - 1, none⟩ (.int .i64 (wrap64 (it3 + 1))) := ⟨_, rfl⟩
                rw [← hw4] at hT4
                rw [← hw4]
                obtain ⟨kt, hkt⟩ : ∃ kt, kt = kinds.getD (kinds.length - 1) 0 := ⟨_, rfl⟩
                have kc4 := kind_at hT4 (kinds.length - 1) (by omega)
                rw [← hkt] at kc4
                have kc5 : w4.cell? ⟨gk2, ((kinds.length : Int) - 1).toNat, none⟩ = some (.int .u8 kt) := by
                  rw [show ((kinds.length : Int) - 1).toNat = kinds.length - 1 by omega]; exact kc4
                have T4t := hide hT4
                have HL4 := hide hl4
                have KIN := hide LL.out.kin
                clear hw4 hkt hT4 hl4 ic3 ic4 if3 if4 T3 x0
                by_cases hkt2 : kt = 111
                · have v9 : (kt == 111) = true := beq_iff_eq.2 hkt2
                  clear hkt2
                  go_wp2_with fail
                  refine (quoted_any _ _ _ T4t.out Q1.out V1.out (by omega) m1 e4).mono ?_
                  rintro e w5 ⟨g5, c5, cu5, out5, rfl, hT5, hc5, hl5, hR5⟩
                  have T5 := hide hT5
                  have R5 := hide (hR5 dd _ R3.out)
                  clear hT5 hR5 kc4 kc5 T4t R3
                  have ALB := hide ((Below.refl w5.heap.size w5).alloc (Nat.le_refl _) (.cells #[.int .u8 58] 5))
                  have t1 : out5.length + 1 ≤ maxLen := by unfold maxLen; omega
                  have t2 : (out5.length + 1) * 1 ≤ 140737488355328 := by omega
                  have t3 : W0.heap.size ≤ (w5.alloc (.cells #[.int .u8 58] 5)).heap.size := by have := T5.out.le; simp; omega
                  have TU : Hid (∀ u ∈ [Value.int .u8 58], u.oneCell' = true) := by intro u hu; simp at hu; subst hu; rfl
                  go_wp2_with (at_builtin; refine wpList_append_lies _ rfl (.tmp 94) (.tmp 95) 23 rfl W0.heap.size 5 i0 (.int .u8 0) 1 1 Try.underlying23 hi hz0 hz1 hz2 rfl (by decide) _ out5.length (cellsB out5) rfl (T5.out.o.alloc _) ⟨_, 0, none⟩ 1 1 [.int .u8 58] rfl rfl (cell_one_new _ _ _) TU.out (by decide) t1 t2 t3 _ rfl ?_)
                  intro g6 c6 w6 hown' hgrow' hat' hlt'
                  have TN := T5.out.push_out (news := [58]) ALB.out rfl hown' hgrow' hat' (by simp)
                  obtain ⟨out56, hO⟩ : ∃ o', o' = out5 ++ [58] := ⟨_, rfl⟩
                  have hL : out5.length + 1 = out56.length := by rw [hO]; simp
                  rw [← hO] at TN
                  rw [hL]
                  have T6 := hide TN
                  have O6 := hide hO
                  have L6 : out56.length ≤ out5.length + 1 := Nat.le_of_eq hL.symm
                  clear TN hO hL hown' hgrow' hat' hlt' ALB t1 t2 t3 TU 
                  go_wp2
                  go_meet
                  case rel => exact ⟨cu5, out56, items4, rfl, hc5, e0, e1, T6.out, HL4.out, e2, by omega, KIN.out, by rw [O6.out]; exact R_plain R5.out (by decide) (by decide) (by decide) (by decide) (by decide)⟩
                · have v9 : (kt == 111) = false := beq_eq_false_iff_ne.2 hkt2
                  clear hkt2
                  go_wp2
                  go_meet
                  case rel => exact ⟨cu, out3, items4, rfl, e4, e0, e1, T4t.out, HL4.out, e2, by omega, KIN.out, R3.out⟩
          case rest =>
            obtain ⟨cu2, out2, items2, rfl, hM⟩ := hcut
            have M := hide hM
            have f4 := hM.cu_le
            have f5 := hM.ole
            have f6 : items2.length ≤ 4096 := by rw [hM.len]; omega
            obtain ⟨oa, oc, hov⟩ := own_slice hM.tree.o
            subst hov
            clear hM LL
            rcases (show z % 8 = 0 ∨ z % 8 = 1 ∨ z % 8 = 2 ∨ z % 8 = 3 ∨ z % 8 = 4 ∨ z % 8 = 5 ∨ z % 8 = 6 by omega) with hkd | hkd | hkd | hkd | hkd | hkd | hkd
            · have fz0 : (z % 8 == 0) = true := beq_iff_eq.2 hkd
              clear hkd
              have jb := jq_nonneg kinds
              go_wp2_with fail
              refine (jq_any ka kc kinds _ (own_src M.out.tree.k) (by omega)).mono ?_
              rintro e w6 ⟨rfl, rfl⟩
              have TM := hide M.out.tree
              have SCN := hide M.out.scan
              have LEN := hide M.out.len
              have KIN := hide M.out.kin
              clear M
              by_cases hx : dd < jq kinds + 1
              · have ALB := hide ((Below.refl w6.heap.size w6).alloc (Nat.le_refl _) (.cells #[.int .u8 91] 5))
                have t1 : out2.length + 1 ≤ maxLen := by unfold maxLen; omega
                have t2 : (out2.length + 1) * 1 ≤ 140737488355328 := by omega
                have t3 : W0.heap.size ≤ (w6.alloc (.cells #[.int .u8 91] 5)).heap.size := by have := TM.out.le; simp; omega
                have TU : Hid (∀ u ∈ [Value.int .u8 91], u.oneCell' = true) := by intro u hu; simp at hu; subst hu; rfl
                go_wp2_with (at_builtin; refine wpList_append_lies _ rfl (.tmp 112) (.tmp 113) 23 rfl W0.heap.size 5 i0 (.int .u8 0) 1 1 Try.underlying23 hi hz0 hz1 hz2 rfl (by decide) _ out2.length (cellsB out2) rfl (TM.out.o.alloc _) ⟨_, 0, none⟩ 1 1 [.int .u8 91] rfl rfl (cell_one_new _ _ _) TU.out (by decide) t1 t2 t3 _ rfl ?_)
                intro g1 c1 w1 hown' hgrow' hat' hlt'
                have TN := TM.out.push_out (news := [91]) ALB.out rfl hown' hgrow' hat' (by simp)
                obtain ⟨out21, hO⟩ : ∃ o', o' = out2 ++ [91] := ⟨_, rfl⟩
                have hL : out2.length + 1 = out21.length := by rw [hO]; simp
                rw [← hO] at TN
                rw [hL]
                have T1 := hide TN
                have O1 := hide hO
                have L1 : out21.length ≤ out2.length + 1 := Nat.le_of_eq hL.symm
                clear TN hO hL hown' hgrow' hat' hlt' ALB t1 t2 t3 TU 
                have ALB := hide ((Below.refl w1.heap.size w1).alloc (Nat.le_refl _) (.cells #[.int .u8 97] 5))
                have t1 : kinds.length + 1 ≤ maxLen := by unfold maxLen; omega
                have t2 : (kinds.length + 1) * 1 ≤ 140737488355328 := by omega
                have t3 : W0.heap.size ≤ (w1.alloc (.cells #[.int .u8 97] 5)).heap.size := by have := T1.out.le; simp; omega
                have TU : Hid (∀ u ∈ [Value.int .u8 97], u.oneCell' = true) := by intro u hu; simp at hu; subst hu; rfl
                go_wp2_with (at_builtin; refine wpList_append_lies _ rfl (.tmp 115) (.tmp 116) 23 rfl W0.heap.size 5 i0 (.int .u8 0) 1 1 Try.underlying23 hi hz0 hz1 hz2 rfl (by decide) _ kinds.length (cellsB kinds) rfl (T1.out.k.alloc _) ⟨_, 0, none⟩ 1 1 [.int .u8 97] rfl rfl (cell_one_new _ _ _) TU.out (by decide) t1 t2 t3 _ rfl ?_)
                intro g3 c3 w3 hown' hgrow' hat' hlt'
                have TN := T1.out.push_kind ALB.out hown' hgrow' hat' (by simp)
                obtain ⟨kinds3, hO⟩ : ∃ o', o' = kinds ++ [97] := ⟨_, rfl⟩
                have hL : kinds.length + 1 = kinds3.length := by rw [hO]; simp
                rw [← hO] at TN
                rw [hL]
                have T3 := hide TN
                have O3 := hide hO
                have L3 : kinds3.length ≤ kinds.length + 1 := Nat.le_of_eq hL.symm
                clear TN hO hL hown' hgrow' hat' hlt' ALB t1 t2 t3 TU 
                have ALB := hide ((Below.refl w3.heap.size w3).alloc (Nat.le_refl _) (.cells #[.int .i64 0] 3))
                have t1 : items2.length + 1 ≤ maxLen := by unfold maxLen; omega
                have t2 : (items2.length + 1) * 8 ≤ 140737488355328 := by omega
                have t3 : W0.heap.size ≤ (w3.alloc (.cells #[.int .i64 0] 3)).heap.size := by have := T3.out.le; simp; omega
                have TU : Hid (∀ u ∈ [Value.int .i64 0], u.oneCell' = true) := by intro u hu; simp at hu; subst hu; rfl
                go_wp2_with (at_builtin; refine wpList_append_lies _ rfl (.tmp 124) (.tmp 125) 26 rfl W0.heap.size 3 j0 (.int .i64 0) 1 8 Try.underlying26 ji jz0 jz1 jz2 rfl (by decide) _ items2.length (cellsI items2) rfl (T3.out.i.alloc _) ⟨_, 0, none⟩ 1 1 [.int .i64 0] rfl rfl (cell_one_new _ _ _) TU.out (by decide) t1 t2 t3 _ rfl ?_)
                intro g5 c5 w5 hown' hgrow' hat' hlt'
                have TN := T3.out.push_item ALB.out hown' hgrow'
                obtain ⟨items25, hO⟩ : ∃ o', o' = items2 ++ [0] := ⟨_, rfl⟩
                have hL : items2.length + 1 = items25.length := by rw [hO]; simp
                rw [← hO] at TN
                rw [hL]
                have T5 := hide TN
                have O5 := hide hO
                have L5 : items25.length ≤ items2.length + 1 := Nat.le_of_eq hL.symm
                clear TN hO hL hown' hgrow' hat' hlt' ALB t1 t2 t3 TU 
                have hz3 : 0 < kinds3.length := by rw [O3.out]; simp
                have v10 : ((kinds3.length : Int) == 0) = false := beq_eq_false_iff_ne.2 (by omega)
                have EL : Hid (items25.length = kinds3.length) := by
                  show items25.length = kinds3.length
                  rw [O5.out, O3.out, List.length_append, List.length_append, LEN.out]; rfl
                have SC : Hid (R out21 (jq kinds + 1) (jq kinds3)) := by
                  have := R_arr SCN.out
                  rw [show max dd (jq kinds + 1) = jq kinds + 1 by omega] at this
                  show R out21 _ _
                  rw [O1.out, O3.out, jq_append]
                  exact this
                have KN : Hid (Kinds kinds3) := by rw [O3.out]; exact Kinds.push KIN.out (by decide)
                clear T1 T3 TM SCN O1 O3 O5 hz3
                go_wp2
                go_roundg (ops.length - (k + 1))
                case measure => have := GK.out; omega
                case rel => exact ⟨k + 1, cu2, jq kinds + 1, out21, kinds3, items25, by omega, by omega, by go_num, rfl, rfl, f4, by omega, by omega, T5.out, EL.out, by omega, by omega, KN.out, SC.out⟩
              · have ALB := hide ((Below.refl w6.heap.size w6).alloc (Nat.le_refl _) (.cells #[.int .u8 91] 5))
                have t1 : out2.length + 1 ≤ maxLen := by unfold maxLen; omega
                have t2 : (out2.length + 1) * 1 ≤ 140737488355328 := by omega
                have t3 : W0.heap.size ≤ (w6.alloc (.cells #[.int .u8 91] 5)).heap.size := by have := TM.out.le; simp; omega
                have TU : Hid (∀ u ∈ [Value.int .u8 91], u.oneCell' = true) := by intro u hu; simp at hu; subst hu; rfl
                go_wp2_with (at_builtin; refine wpList_append_lies _ rfl (.tmp 112) (.tmp 113) 23 rfl W0.heap.size 5 i0 (.int .u8 0) 1 1 Try.underlying23 hi hz0 hz1 hz2 rfl (by decide) _ out2.length (cellsB out2) rfl (TM.out.o.alloc _) ⟨_, 0, none⟩ 1 1 [.int .u8 91] rfl rfl (cell_one_new _ _ _) TU.out (by decide) t1 t2 t3 _ rfl ?_)
                intro g1 c1 w1 hown' hgrow' hat' hlt'
                have TN := TM.out.push_out (news := [91]) ALB.out rfl hown' hgrow' hat' (by simp)
                obtain ⟨out21, hO⟩ : ∃ o', o' = out2 ++ [91] := ⟨_, rfl⟩
                have hL : out2.length + 1 = out21.length := by rw [hO]; simp
                rw [← hO] at TN
                rw [hL]
                have T1 := hide TN
                have O1 := hide hO
                have L1 : out21.length ≤ out2.length + 1 := Nat.le_of_eq hL.symm
                clear TN hO hL hown' hgrow' hat' hlt' ALB t1 t2 t3 TU 
                have ALB := hide ((Below.refl w1.heap.size w1).alloc (Nat.le_refl _) (.cells #[.int .u8 97] 5))
                have t1 : kinds.length + 1 ≤ maxLen := by unfold maxLen; omega
                have t2 : (kinds.length + 1) * 1 ≤ 140737488355328 := by omega
                have t3 : W0.heap.size ≤ (w1.alloc (.cells #[.int .u8 97] 5)).heap.size := by have := T1.out.le; simp; omega
                have TU : Hid (∀ u ∈ [Value.int .u8 97], u.oneCell' = true) := by intro u hu; simp at hu; subst hu; rfl
                go_wp2_with (at_builtin; refine wpList_append_lies _ rfl (.tmp 115) (.tmp 116) 23 rfl W0.heap.size 5 i0 (.int .u8 0) 1 1 Try.underlying23 hi hz0 hz1 hz2 rfl (by decide) _ kinds.length (cellsB kinds) rfl (T1.out.k.alloc _) ⟨_, 0, none⟩ 1 1 [.int .u8 97] rfl rfl (cell_one_new _ _ _) TU.out (by decide) t1 t2 t3 _ rfl ?_)
                intro g3 c3 w3 hown' hgrow' hat' hlt'
                have TN := T1.out.push_kind ALB.out hown' hgrow' hat' (by simp)
                obtain ⟨kinds3, hO⟩ : ∃ o', o' = kinds ++ [97] := ⟨_, rfl⟩
                have hL : kinds.length + 1 = kinds3.length := by rw [hO]; simp
                rw [← hO] at TN
                rw [hL]
                have T3 := hide TN
                have O3 := hide hO
                have L3 : kinds3.length ≤ kinds.length + 1 := Nat.le_of_eq hL.symm
                clear TN hO hL hown' hgrow' hat' hlt' ALB t1 t2 t3 TU 
                have ALB := hide ((Below.refl w3.heap.size w3).alloc (Nat.le_refl _) (.cells #[.int .i64 0] 3))
                have t1 : items2.length + 1 ≤ maxLen := by unfold maxLen; omega
                have t2 : (items2.length + 1) * 8 ≤ 140737488355328 := by omega
                have t3 : W0.heap.size ≤ (w3.alloc (.cells #[.int .i64 0] 3)).heap.size := by have := T3.out.le; simp; omega
                have TU : Hid (∀ u ∈ [Value.int .i64 0], u.oneCell' = true) := by intro u hu; simp at hu; subst hu; rfl
                go_wp2_with (at_builtin; refine wpList_append_lies _ rfl (.tmp 124) (.tmp 125) 26 rfl W0.heap.size 3 j0 (.int .i64 0) 1 8 Try.underlying26 ji jz0 jz1 jz2 rfl (by decide) _ items2.length (cellsI items2) rfl (T3.out.i.alloc _) ⟨_, 0, none⟩ 1 1 [.int .i64 0] rfl rfl (cell_one_new _ _ _) TU.out (by decide) t1 t2 t3 _ rfl ?_)
                intro g5 c5 w5 hown' hgrow' hat' hlt'
                have TN := T3.out.push_item ALB.out hown' hgrow'
                obtain ⟨items25, hO⟩ : ∃ o', o' = items2 ++ [0] := ⟨_, rfl⟩
                have hL : items2.length + 1 = items25.length := by rw [hO]; simp
                rw [← hO] at TN
                rw [hL]
                have T5 := hide TN
                have O5 := hide hO
                have L5 : items25.length ≤ items2.length + 1 := Nat.le_of_eq hL.symm
                clear TN hO hL hown' hgrow' hat' hlt' ALB t1 t2 t3 TU 
                have hz3 : 0 < kinds3.length := by rw [O3.out]; simp
                have v10 : ((kinds3.length : Int) == 0) = false := beq_eq_false_iff_ne.2 (by omega)
                have EL : Hid (items25.length = kinds3.length) := by
                  show items25.length = kinds3.length
                  rw [O5.out, O3.out, List.length_append, List.length_append, LEN.out]; rfl
                have SC : Hid (R out21 (dd) (jq kinds3)) := by
                  have := R_arr SCN.out
                  rw [show max dd (jq kinds + 1) = dd by omega] at this
                  show R out21 _ _
                  rw [O1.out, O3.out, jq_append]
                  exact this
                have KN : Hid (Kinds kinds3) := by rw [O3.out]; exact Kinds.push KIN.out (by decide)
                clear T1 T3 TM SCN O1 O3 O5 hz3
                go_wp2
                go_roundg (ops.length - (k + 1))
                case measure => have := GK.out; omega
                case rel => exact ⟨k + 1, cu2, dd, out21, kinds3, items25, by omega, by omega, by go_num, rfl, rfl, f4, by omega, by omega, T5.out, EL.out, by omega, by omega, KN.out, SC.out⟩
            · have fz0 : (z % 8 == 0) = false := beq_eq_false_iff_ne.2 (by omega)
              have fz1 : (z % 8 == 1) = true := beq_iff_eq.2 hkd
              clear hkd
              have jb := jq_nonneg kinds
              go_wp2_with fail
              refine (jq_any ka kc kinds _ (own_src M.out.tree.k) (by omega)).mono ?_
              rintro e w6 ⟨rfl, rfl⟩
              have TM := hide M.out.tree
              have SCN := hide M.out.scan
              have LEN := hide M.out.len
              have KIN := hide M.out.kin
              clear M
              by_cases hx : dd < jq kinds + 1
              · have ALB := hide ((Below.refl w6.heap.size w6).alloc (Nat.le_refl _) (.cells #[.int .u8 123] 5))
                have t1 : out2.length + 1 ≤ maxLen := by unfold maxLen; omega
                have t2 : (out2.length + 1) * 1 ≤ 140737488355328 := by omega
                have t3 : W0.heap.size ≤ (w6.alloc (.cells #[.int .u8 123] 5)).heap.size := by have := TM.out.le; simp; omega
                have TU : Hid (∀ u ∈ [Value.int .u8 123], u.oneCell' = true) := by intro u hu; simp at hu; subst hu; rfl
                go_wp2_with (at_builtin; refine wpList_append_lies _ rfl (.tmp 118) (.tmp 119) 23 rfl W0.heap.size 5 i0 (.int .u8 0) 1 1 Try.underlying23 hi hz0 hz1 hz2 rfl (by decide) _ out2.length (cellsB out2) rfl (TM.out.o.alloc _) ⟨_, 0, none⟩ 1 1 [.int .u8 123] rfl rfl (cell_one_new _ _ _) TU.out (by decide) t1 t2 t3 _ rfl ?_)
                intro g1 c1 w1 hown' hgrow' hat' hlt'
                have TN := TM.out.push_out (news := [123]) ALB.out rfl hown' hgrow' hat' (by simp)
                obtain ⟨out21, hO⟩ : ∃ o', o' = out2 ++ [123] := ⟨_, rfl⟩
                have hL : out2.length + 1 = out21.length := by rw [hO]; simp
                rw [← hO] at TN
                rw [hL]
                have T1 := hide TN
                have O1 := hide hO
                have L1 : out21.length ≤ out2.length + 1 := Nat.le_of_eq hL.symm
                clear TN hO hL hown' hgrow' hat' hlt' ALB t1 t2 t3 TU 
                have ALB := hide ((Below.refl w1.heap.size w1).alloc (Nat.le_refl _) (.cells #[.int .u8 111] 5))
                have t1 : kinds.length + 1 ≤ maxLen := by unfold maxLen; omega
                have t2 : (kinds.length + 1) * 1 ≤ 140737488355328 := by omega
                have t3 : W0.heap.size ≤ (w1.alloc (.cells #[.int .u8 111] 5)).heap.size := by have := T1.out.le; simp; omega
                have TU : Hid (∀ u ∈ [Value.int .u8 111], u.oneCell' = true) := by intro u hu; simp at hu; subst hu; rfl
                go_wp2_with (at_builtin; refine wpList_append_lies _ rfl (.tmp 121) (.tmp 122) 23 rfl W0.heap.size 5 i0 (.int .u8 0) 1 1 Try.underlying23 hi hz0 hz1 hz2 rfl (by decide) _ kinds.length (cellsB kinds) rfl (T1.out.k.alloc _) ⟨_, 0, none⟩ 1 1 [.int .u8 111] rfl rfl (cell_one_new _ _ _) TU.out (by decide) t1 t2 t3 _ rfl ?_)
                intro g3 c3 w3 hown' hgrow' hat' hlt'
                have TN := T1.out.push_kind ALB.out hown' hgrow' hat' (by simp)
                obtain ⟨kinds3, hO⟩ : ∃ o', o' = kinds ++ [111] := ⟨_, rfl⟩
                have hL : kinds.length + 1 = kinds3.length := by rw [hO]; simp
                rw [← hO] at TN
                rw [hL]
                have T3 := hide TN
                have O3 := hide hO
                have L3 : kinds3.length ≤ kinds.length + 1 := Nat.le_of_eq hL.symm
                clear TN hO hL hown' hgrow' hat' hlt' ALB t1 t2 t3 TU 
                have ALB := hide ((Below.refl w3.heap.size w3).alloc (Nat.le_refl _) (.cells #[.int .i64 0] 3))
                have t1 : items2.length + 1 ≤ maxLen := by unfold maxLen; omega
                have t2 : (items2.length + 1) * 8 ≤ 140737488355328 := by omega
                have t3 : W0.heap.size ≤ (w3.alloc (.cells #[.int .i64 0] 3)).heap.size := by have := T3.out.le; simp; omega
                have TU : Hid (∀ u ∈ [Value.int .i64 0], u.oneCell' = true) := by intro u hu; simp at hu; subst hu; rfl
                go_wp2_with (at_builtin; refine wpList_append_lies _ rfl (.tmp 124) (.tmp 125) 26 rfl W0.heap.size 3 j0 (.int .i64 0) 1 8 Try.underlying26 ji jz0 jz1 jz2 rfl (by decide) _ items2.length (cellsI items2) rfl (T3.out.i.alloc _) ⟨_, 0, none⟩ 1 1 [.int .i64 0] rfl rfl (cell_one_new _ _ _) TU.out (by decide) t1 t2 t3 _ rfl ?_)
                intro g5 c5 w5 hown' hgrow' hat' hlt'
                have TN := T3.out.push_item ALB.out hown' hgrow'
                obtain ⟨items25, hO⟩ : ∃ o', o' = items2 ++ [0] := ⟨_, rfl⟩
                have hL : items2.length + 1 = items25.length := by rw [hO]; simp
                rw [← hO] at TN
                rw [hL]
                have T5 := hide TN
                have O5 := hide hO
                have L5 : items25.length ≤ items2.length + 1 := Nat.le_of_eq hL.symm
                clear TN hO hL hown' hgrow' hat' hlt' ALB t1 t2 t3 TU 
                have hz3 : 0 < kinds3.length := by rw [O3.out]; simp
                have v10 : ((kinds3.length : Int) == 0) = false := beq_eq_false_iff_ne.2 (by omega)
                have EL : Hid (items25.length = kinds3.length) := by
                  show items25.length = kinds3.length
                  rw [O5.out, O3.out, List.length_append, List.length_append, LEN.out]; rfl
                have SC : Hid (R out21 (jq kinds + 1) (jq kinds3)) := by
                  have := R_obj SCN.out
                  rw [show max dd (jq kinds + 1) = jq kinds + 1 by omega] at this
                  show R out21 _ _
                  rw [O1.out, O3.out, jq_append]
                  exact this
                have KN : Hid (Kinds kinds3) := by rw [O3.out]; exact Kinds.push KIN.out (by decide)
                clear T1 T3 TM SCN O1 O3 O5 hz3
                go_wp2
                go_roundg (ops.length - (k + 1))
                case measure => have := GK.out; omega
                case rel => exact ⟨k + 1, cu2, jq kinds + 1, out21, kinds3, items25, by omega, by omega, by go_num, rfl, rfl, f4, by omega, by omega, T5.out, EL.out, by omega, by omega, KN.out, SC.out⟩
              · have ALB := hide ((Below.refl w6.heap.size w6).alloc (Nat.le_refl _) (.cells #[.int .u8 123] 5))
                have t1 : out2.length + 1 ≤ maxLen := by unfold maxLen; omega
                have t2 : (out2.length + 1) * 1 ≤ 140737488355328 := by omega
                have t3 : W0.heap.size ≤ (w6.alloc (.cells #[.int .u8 123] 5)).heap.size := by have := TM.out.le; simp; omega
                have TU : Hid (∀ u ∈ [Value.int .u8 123], u.oneCell' = true) := by intro u hu; simp at hu; subst hu; rfl
                go_wp2_with (at_builtin; refine wpList_append_lies _ rfl (.tmp 118) (.tmp 119) 23 rfl W0.heap.size 5 i0 (.int .u8 0) 1 1 Try.underlying23 hi hz0 hz1 hz2 rfl (by decide) _ out2.length (cellsB out2) rfl (TM.out.o.alloc _) ⟨_, 0, none⟩ 1 1 [.int .u8 123] rfl rfl (cell_one_new _ _ _) TU.out (by decide) t1 t2 t3 _ rfl ?_)
                intro g1 c1 w1 hown' hgrow' hat' hlt'
                have TN := TM.out.push_out (news := [123]) ALB.out rfl hown' hgrow' hat' (by simp)
                obtain ⟨out21, hO⟩ : ∃ o', o' = out2 ++ [123] := ⟨_, rfl⟩
                have hL : out2.length + 1 = out21.length := by rw [hO]; simp
                rw [← hO] at TN
                rw [hL]
                have T1 := hide TN
                have O1 := hide hO
                have L1 : out21.length ≤ out2.length + 1 := Nat.le_of_eq hL.symm
                clear TN hO hL hown' hgrow' hat' hlt' ALB t1 t2 t3 TU 
                have ALB := hide ((Below.refl w1.heap.size w1).alloc (Nat.le_refl _) (.cells #[.int .u8 111] 5))
                have t1 : kinds.length + 1 ≤ maxLen := by unfold maxLen; omega
                have t2 : (kinds.length + 1) * 1 ≤ 140737488355328 := by omega
                have t3 : W0.heap.size ≤ (w1.alloc (.cells #[.int .u8 111] 5)).heap.size := by have := T1.out.le; simp; omega
                have TU : Hid (∀ u ∈ [Value.int .u8 111], u.oneCell' = true) := by intro u hu; simp at hu; subst hu; rfl
                go_wp2_with (at_builtin; refine wpList_append_lies _ rfl (.tmp 121) (.tmp 122) 23 rfl W0.heap.size 5 i0 (.int .u8 0) 1 1 Try.underlying23 hi hz0 hz1 hz2 rfl (by decide) _ kinds.length (cellsB kinds) rfl (T1.out.k.alloc _) ⟨_, 0, none⟩ 1 1 [.int .u8 111] rfl rfl (cell_one_new _ _ _) TU.out (by decide) t1 t2 t3 _ rfl ?_)
                intro g3 c3 w3 hown' hgrow' hat' hlt'
                have TN := T1.out.push_kind ALB.out hown' hgrow' hat' (by simp)
                obtain ⟨kinds3, hO⟩ : ∃ o', o' = kinds ++ [111] := ⟨_, rfl⟩
                have hL : kinds.length + 1 = kinds3.length := by rw [hO]; simp
                rw [← hO] at TN
                rw [hL]
                have T3 := hide TN
                have O3 := hide hO
                have L3 : kinds3.length ≤ kinds.length + 1 := Nat.le_of_eq hL.symm
                clear TN hO hL hown' hgrow' hat' hlt' ALB t1 t2 t3 TU 
                have ALB := hide ((Below.refl w3.heap.size w3).alloc (Nat.le_refl _) (.cells #[.int .i64 0] 3))
                have t1 : items2.length + 1 ≤ maxLen := by unfold maxLen; omega
                have t2 : (items2.length + 1) * 8 ≤ 140737488355328 := by omega
                have t3 : W0.heap.size ≤ (w3.alloc (.cells #[.int .i64 0] 3)).heap.size := by have := T3.out.le; simp; omega
                have TU : Hid (∀ u ∈ [Value.int .i64 0], u.oneCell' = true) := by intro u hu; simp at hu; subst hu; rfl
                go_wp2_with (at_builtin; refine wpList_append_lies _ rfl (.tmp 124) (.tmp 125) 26 rfl W0.heap.size 3 j0 (.int .i64 0) 1 8 Try.underlying26 ji jz0 jz1 jz2 rfl (by decide) _ items2.length (cellsI items2) rfl (T3.out.i.alloc _) ⟨_, 0, none⟩ 1 1 [.int .i64 0] rfl rfl (cell_one_new _ _ _) TU.out (by decide) t1 t2 t3 _ rfl ?_)
                intro g5 c5 w5 hown' hgrow' hat' hlt'
                have TN := T3.out.push_item ALB.out hown' hgrow'
                obtain ⟨items25, hO⟩ : ∃ o', o' = items2 ++ [0] := ⟨_, rfl⟩
                have hL : items2.length + 1 = items25.length := by rw [hO]; simp
                rw [← hO] at TN
                rw [hL]
                have T5 := hide TN
                have O5 := hide hO
                have L5 : items25.length ≤ items2.length + 1 := Nat.le_of_eq hL.symm
                clear TN hO hL hown' hgrow' hat' hlt' ALB t1 t2 t3 TU 
                have hz3 : 0 < kinds3.length := by rw [O3.out]; simp
                have v10 : ((kinds3.length : Int) == 0) = false := beq_eq_false_iff_ne.2 (by omega)
                have EL : Hid (items25.length = kinds3.length) := by
                  show items25.length = kinds3.length
                  rw [O5.out, O3.out, List.length_append, List.length_append, LEN.out]; rfl
                have SC : Hid (R out21 (dd) (jq kinds3)) := by
                  have := R_obj SCN.out
                  rw [show max dd (jq kinds + 1) = dd by omega] at this
                  show R out21 _ _
                  rw [O1.out, O3.out, jq_append]
                  exact this
                have KN : Hid (Kinds kinds3) := by rw [O3.out]; exact Kinds.push KIN.out (by decide)
                clear T1 T3 TM SCN O1 O3 O5 hz3
                go_wp2
                go_roundg (ops.length - (k + 1))
                case measure => have := GK.out; omega
                case rel => exact ⟨k + 1, cu2, dd, out21, kinds3, items25, by omega, by omega, by go_num, rfl, rfl, f4, by omega, by omega, T5.out, EL.out, by omega, by omega, KN.out, SC.out⟩
            · have fz0 : (z % 8 == 0) = false := beq_eq_false_iff_ne.2 (by omega)
              have fz1 : (z % 8 == 1) = false := beq_eq_false_iff_ne.2 (by omega)
              have fz2 : (z % 8 == 2) = true := beq_iff_eq.2 hkd
              clear hkd
              have SCN := hide M.out.scan
              have LEN := hide M.out.len
              have KIN := hide M.out.kin
              go_wp2_with fail
              refine (quoted_any _ _ _ M.out.tree Q1.out V1.out (by omega) m1 f4).mono ?_
              rintro e w5 ⟨g5, c5, cu5, out5, rfl, hT5, hc5, hl5, hR5⟩
              have T5 := hide hT5
              have R5 := hide (hR5 dd _ SCN.out)
              clear hT5 hR5 M
              by_cases hk0 : kinds = []
              · subst hk0
                go_wp2
                go_meet
                case rel => exact ⟨dd, out5, [], rfl, ⟨_, _, T5.out⟩, e0, by omega, by simp, by simp; omega, KIN.out, R5.out⟩
              · have hp : 0 < kinds.length := List.length_pos_iff.2 hk0
                have v10 : ((kinds.length : Int) == 0) = false := beq_eq_false_iff_ne.2 (by omega)
                clear hk0
                go_wp2
                go_roundg (ops.length - (k + 1))
                case measure => have := GK.out; omega
                case rel => exact ⟨k + 1, cu5, dd, out5, kinds, items2, by omega, by omega, by go_num, rfl, rfl, hc5, e0, by omega, T5.out, LEN.out, by omega, by omega, KIN.out, R5.out⟩
            · have fz0 : (z % 8 == 0) = false := beq_eq_false_iff_ne.2 (by omega)
              have fz1 : (z % 8 == 1) = false := beq_eq_false_iff_ne.2 (by omega)
              have fz2 : (z % 8 == 2) = false := beq_eq_false_iff_ne.2 (by omega)
              have fz3 : (z % 8 == 3) = true := beq_iff_eq.2 hkd
              clear hkd
              have SCN := hide M.out.scan
              have LEN := hide M.out.len
              have KIN := hide M.out.kin
              have TM := hide M.out.tree
              have s1 : out2.length + 8 ≤ maxLen := by unfold maxLen; omega
              have s2 : out2.length + 8 ≤ 140737488355328 := by omega
              have s3 := M.out.tree.le
              clear M
              go_wp2_with (at_builtin; refine wpList_append_string _ rfl (.tmp 138) _ 23 9 rfl W0.heap.size 5 i0 Try.underlying23 Try.underlying9 hi hz0 hz1 hz2 _ out2.length (cellsB out2) rfl TM.out.o { data := #[45, 49, 50, 46, 53, 101, 43, 51] } rfl (by decide) s1 s2 s3 ?_)
              intro g5 c5 w5 hown' hgrow' hat'
              rw [sc_num] at hown'
              have TN := TM.out.push_out (news := [45, 49, 50, 46, 53, 101, 43, 51]) (m := 8) (Below.refl _ _) rfl hown' hgrow' hat' rfl
              obtain ⟨out5, hO⟩ : ∃ o', o' = out2 ++ [45, 49, 50, 46, 53, 101, 43, 51] := ⟨_, rfl⟩
              have hL : out2.length + 8 = out5.length := by rw [hO]; simp
              rw [← hO] at TN
              have T5 := hide TN
              have R5 : Hid (R out5 dd (jq kinds)) := by rw [hO]; exact R_plains _ SCN.out (by decide)
              have L5 : out5.length ≤ out2.length + 8 := Nat.le_of_eq hL.symm
              first | rw [hL] | (rw [show out2.length + ({ data := #[45, 49, 50, 46, 53, 101, 43, 51] } : ByteArray).size = out5.length from hL])
              clear TN hO hL hown' hgrow' hat' s1 s2 s3 TM SCN
              by_cases hk0 : kinds = []
              · subst hk0
                go_wp2
                go_meet
                case rel => exact ⟨dd, out5, [], rfl, ⟨_, _, T5.out⟩, e0, by omega, by simp, by simp; omega, KIN.out, R5.out⟩
              · have hp : 0 < kinds.length := List.length_pos_iff.2 hk0
                have v10 : ((kinds.length : Int) == 0) = false := beq_eq_false_iff_ne.2 (by omega)
                clear hk0
                go_wp2
                go_roundg (ops.length - (k + 1))
                case measure => have := GK.out; omega
                case rel => exact ⟨k + 1, cu2, dd, out5, kinds, items2, by omega, by omega, by go_num, rfl, rfl, f4, e0, by omega, T5.out, LEN.out, by omega, by omega, KIN.out, R5.out⟩
            · have fz0 : (z % 8 == 0) = false := beq_eq_false_iff_ne.2 (by omega)
              have fz1 : (z % 8 == 1) = false := beq_eq_false_iff_ne.2 (by omega)
              have fz2 : (z % 8 == 2) = false := beq_eq_false_iff_ne.2 (by omega)
              have fz3 : (z % 8 == 3) = false := beq_eq_false_iff_ne.2 (by omega)
              have fz4 : (z % 8 == 4) = true := beq_iff_eq.2 hkd
              clear hkd
              have SCN := hide M.out.scan
              have LEN := hide M.out.len
              have KIN := hide M.out.kin
              have TM := hide M.out.tree
              have s1 : out2.length + 4 ≤ maxLen := by unfold maxLen; omega
              have s2 : out2.length + 4 ≤ 140737488355328 := by omega
              have s3 := M.out.tree.le
              clear M
              go_wp2_with (at_builtin; refine wpList_append_string _ rfl (.tmp 142) _ 23 9 rfl W0.heap.size 5 i0 Try.underlying23 Try.underlying9 hi hz0 hz1 hz2 _ out2.length (cellsB out2) rfl TM.out.o { data := #[116, 114, 117, 101] } rfl (by decide) s1 s2 s3 ?_)
              intro g5 c5 w5 hown' hgrow' hat'
              rw [sc_true] at hown'
              have TN := TM.out.push_out (news := [116, 114, 117, 101]) (m := 4) (Below.refl _ _) rfl hown' hgrow' hat' rfl
              obtain ⟨out5, hO⟩ : ∃ o', o' = out2 ++ [116, 114, 117, 101] := ⟨_, rfl⟩
              have hL : out2.length + 4 = out5.length := by rw [hO]; simp
              rw [← hO] at TN
              have T5 := hide TN
              have R5 : Hid (R out5 dd (jq kinds)) := by rw [hO]; exact R_plains _ SCN.out (by decide)
              have L5 : out5.length ≤ out2.length + 4 := Nat.le_of_eq hL.symm
              first | rw [hL] | (rw [show out2.length + ({ data := #[116, 114, 117, 101] } : ByteArray).size = out5.length from hL])
              clear TN hO hL hown' hgrow' hat' s1 s2 s3 TM SCN
              by_cases hk0 : kinds = []
              · subst hk0
                go_wp2
                go_meet
                case rel => exact ⟨dd, out5, [], rfl, ⟨_, _, T5.out⟩, e0, by omega, by simp, by simp; omega, KIN.out, R5.out⟩
              · have hp : 0 < kinds.length := List.length_pos_iff.2 hk0
                have v10 : ((kinds.length : Int) == 0) = false := beq_eq_false_iff_ne.2 (by omega)
                clear hk0
                go_wp2
                go_roundg (ops.length - (k + 1))
                case measure => have := GK.out; omega
                case rel => exact ⟨k + 1, cu2, dd, out5, kinds, items2, by omega, by omega, by go_num, rfl, rfl, f4, e0, by omega, T5.out, LEN.out, by omega, by omega, KIN.out, R5.out⟩
            · have fz0 : (z % 8 == 0) = false := beq_eq_false_iff_ne.2 (by omega)
              have fz1 : (z % 8 == 1) = false := beq_eq_false_iff_ne.2 (by omega)
              have fz2 : (z % 8 == 2) = false := beq_eq_false_iff_ne.2 (by omega)
              have fz3 : (z % 8 == 3) = false := beq_eq_false_iff_ne.2 (by omega)
              have fz4 : (z % 8 == 4) = false := beq_eq_false_iff_ne.2 (by omega)
              have fz5 : (z % 8 == 5) = true := beq_iff_eq.2 hkd
              clear hkd
              have SCN := hide M.out.scan
              have LEN := hide M.out.len
              have KIN := hide M.out.kin
              have TM := hide M.out.tree
              have s1 : out2.length + 5 ≤ maxLen := by unfold maxLen; omega
              have s2 : out2.length + 5 ≤ 140737488355328 := by omega
              have s3 := M.out.tree.le
              clear M
              go_wp2_with (at_builtin; refine wpList_append_string _ rfl (.tmp 146) _ 23 9 rfl W0.heap.size 5 i0 Try.underlying23 Try.underlying9 hi hz0 hz1 hz2 _ out2.length (cellsB out2) rfl TM.out.o { data := #[102, 97, 108, 115, 101] } rfl (by decide) s1 s2 s3 ?_)
              intro g5 c5 w5 hown' hgrow' hat'
              rw [sc_false] at hown'
              have TN := TM.out.push_out (news := [102, 97, 108, 115, 101]) (m := 5) (Below.refl _ _) rfl hown' hgrow' hat' rfl
              obtain ⟨out5, hO⟩ : ∃ o', o' = out2 ++ [102, 97, 108, 115, 101] := ⟨_, rfl⟩
              have hL : out2.length + 5 = out5.length := by rw [hO]; simp
              rw [← hO] at TN
              have T5 := hide TN
              have R5 : Hid (R out5 dd (jq kinds)) := by rw [hO]; exact R_plains _ SCN.out (by decide)
              have L5 : out5.length ≤ out2.length + 5 := Nat.le_of_eq hL.symm
              first | rw [hL] | (rw [show out2.length + ({ data := #[102, 97, 108, 115, 101] } : ByteArray).size = out5.length from hL])
              clear TN hO hL hown' hgrow' hat' s1 s2 s3 TM SCN
              by_cases hk0 : kinds = []
              · subst hk0
                go_wp2
                go_meet
                case rel => exact ⟨dd, out5, [], rfl, ⟨_, _, T5.out⟩, e0, by omega, by simp, by simp; omega, KIN.out, R5.out⟩
              · have hp : 0 < kinds.length := List.length_pos_iff.2 hk0
                have v10 : ((kinds.length : Int) == 0) = false := beq_eq_false_iff_ne.2 (by omega)
                clear hk0
                go_wp2
                go_roundg (ops.length - (k + 1))
                case measure => have := GK.out; omega
                case rel => exact ⟨k + 1, cu2, dd, out5, kinds, items2, by omega, by omega, by go_num, rfl, rfl, f4, e0, by omega, T5.out, LEN.out, by omega, by omega, KIN.out, R5.out⟩
            · have fz0 : (z % 8 == 0) = false := beq_eq_false_iff_ne.2 (by omega)
              have fz1 : (z % 8 == 1) = false := beq_eq_false_iff_ne.2 (by omega)
              have fz2 : (z % 8 == 2) = false := beq_eq_false_iff_ne.2 (by omega)
              have fz3 : (z % 8 == 3) = false := beq_eq_false_iff_ne.2 (by omega)
              have fz4 : (z % 8 == 4) = false := beq_eq_false_iff_ne.2 (by omega)
              have fz5 : (z % 8 == 5) = false := beq_eq_false_iff_ne.2 (by omega)
              clear hkd
              have SCN := hide M.out.scan
              have LEN := hide M.out.len
              have KIN := hide M.out.kin
              have TM := hide M.out.tree
              have s1 : out2.length + 4 ≤ maxLen := by unfold maxLen; omega
              have s2 : out2.length + 4 ≤ 140737488355328 := by omega
              have s3 := M.out.tree.le
              clear M
              go_wp2_with (at_builtin; refine wpList_append_string _ rfl (.tmp 98) _ 23 9 rfl W0.heap.size 5 i0 Try.underlying23 Try.underlying9 hi hz0 hz1 hz2 _ out2.length (cellsB out2) rfl TM.out.o { data := #[110, 117, 108, 108] } rfl (by decide) s1 s2 s3 ?_)
              intro g5 c5 w5 hown' hgrow' hat'
              rw [sc_null] at hown'
              have TN := TM.out.push_out (news := [110, 117, 108, 108]) (m := 4) (Below.refl _ _) rfl hown' hgrow' hat' rfl
              obtain ⟨out5, hO⟩ : ∃ o', o' = out2 ++ [110, 117, 108, 108] := ⟨_, rfl⟩
              have hL : out2.length + 4 = out5.length := by rw [hO]; simp
              rw [← hO] at TN
              have T5 := hide TN
              have R5 : Hid (R out5 dd (jq kinds)) := by rw [hO]; exact R_plains _ SCN.out (by decide)
              have L5 : out5.length ≤ out2.length + 4 := Nat.le_of_eq hL.symm
              first | rw [hL] | (rw [show out2.length + ({ data := #[110, 117, 108, 108] } : ByteArray).size = out5.length from hL])
              clear TN hO hL hown' hgrow' hat' s1 s2 s3 TM SCN
              by_cases hk0 : kinds = []
              · subst hk0
                go_wp2
                go_meet
                case rel => exact ⟨dd, out5, [], rfl, ⟨_, _, T5.out⟩, e0, by omega, by simp, by simp; omega, KIN.out, R5.out⟩
              · have hp : 0 < kinds.length := List.length_pos_iff.2 hk0
                have v10 : ((kinds.length : Int) == 0) = false := beq_eq_false_iff_ne.2 (by omega)
                clear hk0
                go_wp2
                go_roundg (ops.length - (k + 1))
                case measure => have := GK.out; omega
                case rel => exact ⟨k + 1, cu2, dd, out5, kinds, items2, by omega, by omega, by go_num, rfl, rfl, f4, e0, by omega, T5.out, LEN.out, by omega, by omega, KIN.out, R5.out⟩
      · clear Q0 V0
        go_wp2
        go_meet
        case rel => exact ⟨dd, out, kinds, rfl, LL.out.fin (by omega)⟩
  case rest =>
    obtain ⟨dd, out, kinds, rfl, hF⟩ := hcut
    have FF := hide hF
    clear hF Q0 V0
    go_wp2
    go_loopg [5, 6] kinds.length (fun gk o kv wr => ∃ (out2 kinds2 : List Int), gk = kinds2.length ∧ FinSt W0 o kv dd out2 kinds2 wr)
    case atStart => exact ⟨out, kinds, rfl, FF.out⟩
    case round =>
      obtain ⟨out2, kinds2, hgk, hF⟩ := hrel
      obtain ⟨⟨iv2, items2, hT⟩, e0, e1, e2, e3, hK, hR⟩ := hF
      have GK := hide hgk
      have T2 := hide hT
      have K2 := hide hK
      have R2 := hide hR
      obtain ⟨oa, oc, hov⟩ := own_slice hT.o
      subst hov
      clear hT hK hR hgk FF
      by_cases hk0 : kinds2 = []
      · subst hk0
        obtain ⟨ka, kc, hkv⟩ := own_slice T2.out.k
        subst hkv
        by_cases ho0 : out2 = []
        · subst ho0
          have s1 : (0 : Nat) + 4 ≤ maxLen := by unfold maxLen; omega
          have s2 : (0 : Nat) + 4 ≤ 140737488355328 := by omega
          have s3 := T2.out.le
          go_wp2_with (at_builtin; refine wpList_append_string _ rfl (.tmp 166) _ 23 9 rfl W0.heap.size 5 i0 Try.underlying23 Try.underlying9 hi hz0 hz1 hz2 _ 0 [] rfl T2.out.o { data := #[110, 117, 108, 108] } rfl (by decide) s1 s2 s3 ?_)
          intro g5 c5 w5 hown' hgrow' hat'
          rw [sc_null] at hown'
          have TN := T2.out.push_out (news := [110, 117, 108, 108]) (m := 4) (Below.refl _ _) rfl hown' hgrow' hat' rfl
          have RN : R [110, 117, 108, 108] dd (jq []) := R_plains (out := []) _ R2.out (by decide)
          have hz : Calls Try.prog 18 #[.slice (some ⟨g5, 0, none⟩) 4 c5] w5 fun e w' => e = .returned (.int .i64 (nest [110, 117, 108, 108] 0 0 false)) ∧ w' = w5 := znesting_any (some ⟨g5, 0, none⟩) c5 [110, 117, 108, 108] w5 (own_src TN.o) (by simp)
          rw [R_done RN] at hz
          have HZ := hide hz
          have T5 := hide TN
          clear hz TN RN hown' hgrow' hat' s1 s2 s3
          go_wp2_with (go_at_call 18; refine HZ.out.mono ?_; rintro e w9 ⟨rfl, rfl⟩)
          go_ret
          exact ⟨rfl, BB.out.trans (T5.out.bel.mono BB.out.size)⟩
        · have hp : 0 < out2.length := List.length_pos_iff.2 ho0
          have v1 : ((out2.length : Int) == 0) = false := beq_eq_false_iff_ne.2 (by omega)
          clear ho0
          have hz := znesting_any oa oc out2 wr (own_src T2.out.o) (by omega)
          rw [R_done R2.out] at hz
          have HZ := hide hz
          clear hz
          go_wp2_with (go_at_call 18; refine HZ.out.mono ?_; rintro e w9 ⟨rfl, rfl⟩)
          go_ret
          exact ⟨rfl, BB.out.trans (T2.out.bel.mono BB.out.size)⟩
      · obtain ⟨ks, kt, rfl⟩ := snoc_of hk0
        obtain ⟨gk2, ck, hkv, hkc⟩ := kind_form T2.out
        subst hkv
        have hks : ks.length + 1 ≤ 4096 := by simpa using e2
        have hos : out2.length + (ks.length + 1) ≤ 200000 := by simpa using e3
        clear hk0 e2 e3
        go_wp2_with fail
        refine (close_top T2.out K2.out (by omega) (by omega)).mono ?_
        rintro e w5 ⟨g5, c5, out5, rfl, hT5, hl5, hp5, hR5⟩
        have T6 := hide hT5
        have R6 := hide (hR5 dd R2.out)
        have K6 : Hid (Kinds ks) := fun c hc => K2.out c (by simp [hc])
        have y1 : (0 : Int) ≤ (ks.length : Int) := by omega
        have y2 : (ks.length : Int) ≤ (ck : Int) := by omega
        clear hT5 hR5 T2 R2 K2
        go_wp2
        go_roundg ks.length
        case measure => have := GK.out; simp at this; omega
        case rel => exact ⟨out5, ks, rfl, ⟨_, _, T6.out⟩, e0, e1, by omega, by omega, K6.out, R6.out⟩

end Go.Proofs.Qxb6003728a.Depth
