/-
  The walks of zzCloseTop (15) and zzAppendQuoted (16).
-/
import Derived.Test.Qxb6003728aTree
import Derived.Test.Qxb6003728aNesting
import Derived.Deep.DeepCutAuto
namespace Go.Proofs.Qxb6003728a.Pieces
open Go.RowKit Go.Proofs.Qxb6003728a.NestLaw Go.Proofs.Qxb6003728a.Tree
open Go.Proofs.Qxb6003728a.Clone (Src hide info5)

theorem top_cell {w : World} {base g n cap : Nat} {zs : List Int} (h : w.ownsRow base 5 1 (.slice (some ⟨g, 0, none⟩) n cap) zs.length (cellsB zs)) (hn : n = zs.length) (j : Nat) (hj : j < zs.length) : w.cell? ⟨g, j, none⟩ = some (.int .u8 (zs.getD j 0)) := by
  subst hn
  rw [h.cellAt j (by omega)]
  simp [cellsB, List.getD, hj]

section
variable {W0 : World} {ov iv : Value} {out kinds items : List Int} {wr : World} {gk ck : Nat}

set_option maxRecDepth 100000 in
set_option maxHeartbeats 1000000 in
/-- zzCloseTop -/
theorem close_any (h : Tree W0.heap.size W0 ov (.slice (some ⟨gk, 0, none⟩) kinds.length ck) iv out kinds items wr) (hp : 0 < kinds.length) (hm : out.length ≤ 1000000) (hm' : kinds.length ≤ 1000000) :
    Calls Try.prog 15 #[ov, .slice (some ⟨gk, 0, none⟩) kinds.length ck] wr fun e w' => ∃ g cap, e = .returned (.slice (some ⟨g, 0, none⟩) (out ++ [closer kinds]).length cap) ∧ Tree W0.heap.size W0 (.slice (some ⟨g, 0, none⟩) (out ++ [closer kinds]).length cap) (.slice (some ⟨gk, 0, none⟩) kinds.length ck) iv (out ++ [closer kinds]) kinds items w' := by
  obtain ⟨i0, hi, hz0, hz1, hz2⟩ := info_parts info5
  have c1 := top_cell h.k rfl (kinds.length - 1) (by omega)
  obtain ⟨oa, oc, rfl⟩ := own_slice h.o
  have T := hide h
  have b0 : (0 : Int) ≤ (kinds.length : Int) - 1 := by omega
  have b1 : (kinds.length : Int) - 1 < (kinds.length : Int) := by omega
  obtain ⟨z, hz⟩ : ∃ z, z = kinds.getD (kinds.length - 1) 0 := ⟨_, rfl⟩
  rw [← hz] at c1
  have c2 : wr.cell? ⟨gk, ((kinds.length : Int) - 1).toNat, none⟩ = some (.int .u8 z) := by
    rw [show ((kinds.length : Int) - 1).toNat = kinds.length - 1 by omega]; exact c1
  by_cases hc : z = 97
  · have t0 : (z == 97) = true := beq_iff_eq.2 hc
    have e : Hid (closer kinds = 93) := if_pos (hz.symm.trans hc)
    clear hc hz h
    go_enter Try.func15, Try.ntmps15
    have ALB := hide ((Below.refl wr.heap.size wr).alloc (Nat.le_refl _) (.cells #[.int .u8 93] 5))
    have t1 : out.length + 1 ≤ maxLen := by unfold maxLen; omega
    have t2 : (out.length + 1) * 1 ≤ 140737488355328 := by omega
    have t3 : W0.heap.size ≤ (wr.alloc (.cells #[.int .u8 93] 5)).heap.size := by have := T.out.le; simp; omega
    have T4 : Hid (∀ u ∈ [Value.int .u8 93], u.oneCell' = true) := by intro u hu; simp at hu; subst hu; rfl
    go_wp2_with (at_builtin; refine wpList_append_lies _ rfl (.tmp 12) (.tmp 13) 23 rfl W0.heap.size 5 i0 (.int .u8 0) 1 1 Try.underlying23 hi hz0 hz1 hz2 rfl (by decide) _ out.length (cellsB out) rfl (T.out.o.alloc _) ⟨_, 0, none⟩ 1 1 [.int .u8 93] rfl rfl (cell_one_new _ _ _) T4.out (by decide) t1 t2 t3 _ rfl ?_)
    intro g1 c1 w1 hown' hgrow' hat' hlt'
    have TN := T.out.push_out (news := [93]) ALB.out rfl hown' hgrow' hat' (by simp)
    obtain ⟨out1, hO⟩ : ∃ o', o' = out ++ [93] := ⟨_, rfl⟩
    have hL : out.length + 1 = out1.length := by rw [hO]; simp
    rw [← hO] at TN
    rw [hL]
    have T1 := hide TN
    have O1 := hide hO
    have L1 : out1.length ≤ out.length + 1 := Nat.le_of_eq hL.symm
    clear TN hO hL hown' hgrow' hat' hlt' ALB t1 t2 t3 T4 
    go_wp2
    go_ret
    rw [e.out, ← O1.out]
    exact ⟨_, _, rfl, T1.out⟩
  · have t0 : (z == 97) = false := beq_eq_false_iff_ne.2 hc
    have e : Hid (closer kinds = 125) := if_neg (by rw [← hz]; exact hc)
    clear hc hz h
    go_enter Try.func15, Try.ntmps15
    have ALB := hide ((Below.refl wr.heap.size wr).alloc (Nat.le_refl _) (.cells #[.int .u8 125] 5))
    have t1 : out.length + 1 ≤ maxLen := by unfold maxLen; omega
    have t2 : (out.length + 1) * 1 ≤ 140737488355328 := by omega
    have t3 : W0.heap.size ≤ (wr.alloc (.cells #[.int .u8 125] 5)).heap.size := by have := T.out.le; simp; omega
    have T4 : Hid (∀ u ∈ [Value.int .u8 125], u.oneCell' = true) := by intro u hu; simp at hu; subst hu; rfl
    go_wp2_with (at_builtin; refine wpList_append_lies _ rfl (.tmp 15) (.tmp 16) 23 rfl W0.heap.size 5 i0 (.int .u8 0) 1 1 Try.underlying23 hi hz0 hz1 hz2 rfl (by decide) _ out.length (cellsB out) rfl (T.out.o.alloc _) ⟨_, 0, none⟩ 1 1 [.int .u8 125] rfl rfl (cell_one_new _ _ _) T4.out (by decide) t1 t2 t3 _ rfl ?_)
    intro g1 c1 w1 hown' hgrow' hat' hlt'
    have TN := T.out.push_out (news := [125]) ALB.out rfl hown' hgrow' hat' (by simp)
    obtain ⟨out1, hO⟩ : ∃ o', o' = out ++ [125] := ⟨_, rfl⟩
    have hL : out.length + 1 = out1.length := by rw [hO]; simp
    rw [← hO] at TN
    rw [hL]
    have T1 := hide TN
    have O1 := hide hO
    have L1 : out1.length ≤ out.length + 1 := Nat.le_of_eq hL.symm
    clear TN hO hL hown' hgrow' hat' hlt' ALB t1 t2 t3 T4 
    go_wp2
    go_ret
    rw [e.out, ← O1.out]
    exact ⟨_, _, rfl, T1.out⟩

end


theorem src_cell {w : World} {a : Option Addr} {zs : List Int} (h : Src w a zs) {k : Nat} (hk : k < zs.length) : ∃ b off, a = some ⟨b, off, none⟩ ∧ b < w.heap.size ∧ w.cell? ⟨b, off + k, none⟩ = some (.int .u8 (zs.getD k 0)) := by
  rcases h with h | ⟨b, off, e, hlt, hc⟩
  · subst h; simp at hk
  · exact ⟨b, off, e, hlt, hc k hk⟩

set_option maxRecDepth 100000 in
set_option maxHeartbeats 4000000 in
/-- zzAppendQuoted -/
theorem quoted_any {W0 : World} {ov kv iv : Value} {out kinds items chars : List Int} {wr : World} (ca : Option Addr) (cc cu : Nat) (h : Tree W0.heap.size W0 ov kv iv out kinds items wr) (hs : Src W0 ca chars) (hb : ∀ i, 0 ≤ chars.getD i 0 ∧ chars.getD i 0 ≤ 255) (hm : out.length ≤ 900000) (hm' : chars.length ≤ 4096) (hcu : cu ≤ chars.length) :
    Calls Try.prog 16 #[ov, .slice ca chars.length cc, .int .i64 cu] wr fun e w' => ∃ g cap cu' out', e = .returned (.tuple #[.slice (some ⟨g, 0, none⟩) out'.length cap, .int .i64 ((cu' : Nat) : Int)]) ∧ Tree W0.heap.size W0 (.slice (some ⟨g, 0, none⟩) out'.length cap) kv iv out' kinds items w' ∧ cu' ≤ chars.length ∧ out'.length ≤ out.length + 12 ∧ ∀ d p, R out d p → R out' d p := by
  obtain ⟨i0, hi, hz0, hz1, hz2⟩ := info_parts info5
  obtain ⟨oa, oc, rfl⟩ := own_slice h.o
  have T := hide h
  have S := hide hs
  have CB := hide hb
  clear h hs hb
  go_enter Try.func16, Try.ntmps16
  have ALB := hide ((Below.refl wr.heap.size wr).alloc (Nat.le_refl _) (.cells #[.int .u8 34] 5))
  have t1 : out.length + 1 ≤ maxLen := by unfold maxLen; omega
  have t2 : (out.length + 1) * 1 ≤ 140737488355328 := by omega
  have t3 : W0.heap.size ≤ (wr.alloc (.cells #[.int .u8 34] 5)).heap.size := by have := T.out.le; simp; omega
  have T4 : Hid (∀ u ∈ [Value.int .u8 34], u.oneCell' = true) := by intro u hu; simp at hu; subst hu; rfl
  go_wp2_with (at_builtin; refine wpList_append_lies _ rfl (.tmp 11) (.tmp 12) 23 rfl W0.heap.size 5 i0 (.int .u8 0) 1 1 Try.underlying23 hi hz0 hz1 hz2 rfl (by decide) _ out.length (cellsB out) rfl (T.out.o.alloc _) ⟨_, 0, none⟩ 1 1 [.int .u8 34] rfl rfl (cell_one_new _ _ _) T4.out (by decide) t1 t2 t3 _ rfl ?_)
  intro g1 c1 w1 hown' hgrow' hat' hlt'
  have TN := T.out.push_out (news := [34]) ALB.out rfl hown' hgrow' hat' (by simp)
  obtain ⟨out1, hO⟩ : ∃ o', o' = out ++ [34] := ⟨_, rfl⟩
  have hL : out.length + 1 = out1.length := by rw [hO]; simp
  rw [← hO] at TN
  rw [hL]
  have T1 := hide TN
  have O1 := hide hO
  have L1 : out1.length ≤ out.length + 1 := Nat.le_of_eq hL.symm
  clear TN hO hL hown' hgrow' hat' hlt' ALB t1 t2 t3 T4 
  have Q1 : Hid (∀ d p, R out d p → NestLaw.S out1 d p) := fun d p hr => by rw [O1.out]; exact R_quote hr
  clear O1 T
  go_upto_if 17 with fail
  go_cut [2, 8] (fun c n w => ∃ (cu' : Nat) (nn : Int), cu' ≤ chars.length ∧ c = .int .i64 cu' ∧ n = .int .i64 nn ∧ 0 ≤ nn ∧ nn ≤ 5 ∧ w = w1)
  case first =>
    by_cases hlt : cu < chars.length
    · obtain ⟨b, off, rfl, hbl, hc⟩ := src_cell S.out hlt
      obtain ⟨z, hz⟩ : ∃ z, z = chars.getD cu 0 := ⟨_, rfl⟩
      have c1 : w1.cell? ⟨b, off + cu, none⟩ = some (.int .u8 z) := by rw [hz]; exact (T1.out.bel.cell (p := ⟨b, off + cu, none⟩) hbl).trans hc
      have z0 : 0 ≤ z := by rw [hz]; exact (CB.out cu).1
      have z1 : z ≤ 255 := by rw [hz]; exact (CB.out cu).2
      clear hz hc
      go_wp2
      go_meet
      case rel => exact ⟨cu + 1, z % 6, by omega, by go_num, by first | rfl | go_num, by omega, by omega, rfl⟩
    · have hd : decide ((cu : Int) < (chars.length : Int)) = false := decide_eq_false (by omega)
      go_wp2
      go_meet
      case rel => exact ⟨cu, 0, by omega, rfl, rfl, by omega, by omega, rfl⟩
  case rest =>
    obtain ⟨cu2, nn, hcu2, rfl, rfl, n0, n5, rfl⟩ := hcut
    go_wp2
    go_loopw [0, 2, 9] (fun v c k wq => ∃ (kk cu3 g cap : Nat) (o2 : List Int), kk ≤ 5 ∧ k = .int .i64 kk ∧ c = .int .i64 cu3 ∧ cu3 ≤ chars.length ∧ v = .slice (some ⟨g, 0, none⟩) o2.length cap ∧ o2.length ≤ out.length + 1 + 2 * kk ∧ Tree W0.heap.size W0 (.slice (some ⟨g, 0, none⟩) o2.length cap) kv iv o2 kinds items wq ∧ ∀ d p, R out d p → NestLaw.S o2 d p) (fun _ _ k _ => 6 - (intOf k).toNat)
    case atStart => exact ⟨0, cu2, _, _, out1, by omega, rfl, rfl, hcu2, rfl, by omega, T1.out, Q1.out⟩
    case round =>
      obtain ⟨kk, cu3, g2, c2, o2, hkk, rfl, rfl, hcu3, rfl, hol, hT2, hQ2⟩ := hrel
      have T2 := hide hT2
      have Q2 := hide hQ2
      clear hT2 hQ2 T1 Q1
      by_cases h1 : (kk : Int) < nn
      · by_cases h2 : cu3 < chars.length
        · obtain ⟨b, off, rfl, hbl, hc⟩ := src_cell S.out h2
          obtain ⟨z, hz⟩ : ∃ z, z = chars.getD cu3 0 := ⟨_, rfl⟩
          have x1 : wr.cell? ⟨b, off + cu3, none⟩ = some (.int .u8 z) := by rw [hz]; exact (T2.out.bel.cell (p := ⟨b, off + cu3, none⟩) hbl).trans hc
          clear hz hc S CB
          by_cases e1 : z = 34
          · have u1 : (z == 34) = true := beq_iff_eq.2 e1
            clear e1
            have ALB := hide ((Below.refl wr.heap.size wr).alloc (Nat.le_refl _) (.cells #[.int .u8 92] 5))
            have t1 : o2.length + 1 ≤ maxLen := by unfold maxLen; omega
            have t2 : (o2.length + 1) * 1 ≤ 140737488355328 := by omega
            have t3 : W0.heap.size ≤ (wr.alloc (.cells #[.int .u8 92] 5)).heap.size := by have := T2.out.le; simp; omega
            have TU : Hid (∀ u ∈ [Value.int .u8 92], u.oneCell' = true) := by intro u hu; simp at hu; subst hu; rfl
            go_wp2_with (at_builtin; refine wpList_append_lies _ rfl (.tmp 49) (.tmp 50) 23 rfl W0.heap.size 5 i0 (.int .u8 0) 1 1 Try.underlying23 hi hz0 hz1 hz2 rfl (by decide) _ o2.length (cellsB o2) rfl (T2.out.o.alloc _) ⟨_, 0, none⟩ 1 1 [.int .u8 92] rfl rfl (cell_one_new _ _ _) TU.out (by decide) t1 t2 t3 _ rfl ?_)
            intro g3 c3 w3 hown' hgrow' hat' hlt'
            have TN := T2.out.push_out (news := [92]) ALB.out rfl hown' hgrow' hat' (by simp)
            obtain ⟨o23, hO⟩ : ∃ o', o' = o2 ++ [92] := ⟨_, rfl⟩
            have hL : o2.length + 1 = o23.length := by rw [hO]; simp
            rw [← hO] at TN
            rw [hL]
            have T3 := hide TN
            have O3 := hide hO
            have L3 : o23.length ≤ o2.length + 1 := Nat.le_of_eq hL.symm
            clear TN hO hL hown' hgrow' hat' hlt' ALB t1 t2 t3 TU 
            have ALB := hide ((Below.refl w3.heap.size w3).alloc (Nat.le_refl _) (.cells #[.int .u8 z] 5))
            have t1 : o23.length + 1 ≤ maxLen := by unfold maxLen; omega
            have t2 : (o23.length + 1) * 1 ≤ 140737488355328 := by omega
            have t3 : W0.heap.size ≤ (w3.alloc (.cells #[.int .u8 z] 5)).heap.size := by have := T3.out.le; simp; omega
            have TU : Hid (∀ u ∈ [Value.int .u8 z], u.oneCell' = true) := by intro u hu; simp at hu; subst hu; rfl
            go_wp2_with (at_builtin; refine wpList_append_lies _ rfl (.tmp 52) (.tmp 54) 23 rfl W0.heap.size 5 i0 (.int .u8 0) 1 1 Try.underlying23 hi hz0 hz1 hz2 rfl (by decide) _ o23.length (cellsB o23) rfl (T3.out.o.alloc _) ⟨_, 0, none⟩ 1 1 [.int .u8 z] rfl rfl (cell_one_new _ _ _) TU.out (by decide) t1 t2 t3 _ rfl ?_)
            intro g4 c4 w4 hown' hgrow' hat' hlt'
            have TN := T3.out.push_out (news := [z]) ALB.out rfl hown' hgrow' hat' (by simp)
            obtain ⟨o234, hO⟩ : ∃ o', o' = o23 ++ [z] := ⟨_, rfl⟩
            have hL : o23.length + 1 = o234.length := by rw [hO]; simp
            rw [← hO] at TN
            rw [hL]
            have T4 := hide TN
            have O4 := hide hO
            have L4 : o234.length ≤ o23.length + 1 := Nat.le_of_eq hL.symm
            clear TN hO hL hown' hgrow' hat' hlt' ALB t1 t2 t3 TU 
            have Q4 : Hid (∀ d p, R out d p → NestLaw.S o234 d p) := fun d p hr => by rw [O4.out, O3.out]; exact S_esc z (Q2.out d p hr)
            clear Q2 O3 O4 T2 T3
            go_wp2
            go_roundw
            case rel => exact ⟨kk + 1, cu3 + 1, _, _, o234, by omega, by go_num, by go_num, by omega, rfl, by omega, T4.out, Q4.out⟩
            case measure => simp [intOf]; omega
          · have u1 : (z == 34) = false := beq_eq_false_iff_ne.2 e1
            have hz1' := e1
            by_cases e2 : z = 92
            · have u2 : (z == 92) = true := beq_iff_eq.2 e2
              clear e1 e2 hz1'
              have ALB := hide ((Below.refl wr.heap.size wr).alloc (Nat.le_refl _) (.cells #[.int .u8 92] 5))
              have t1 : o2.length + 1 ≤ maxLen := by unfold maxLen; omega
              have t2 : (o2.length + 1) * 1 ≤ 140737488355328 := by omega
              have t3 : W0.heap.size ≤ (wr.alloc (.cells #[.int .u8 92] 5)).heap.size := by have := T2.out.le; simp; omega
              have TU : Hid (∀ u ∈ [Value.int .u8 92], u.oneCell' = true) := by intro u hu; simp at hu; subst hu; rfl
              go_wp2_with (at_builtin; refine wpList_append_lies _ rfl (.tmp 49) (.tmp 50) 23 rfl W0.heap.size 5 i0 (.int .u8 0) 1 1 Try.underlying23 hi hz0 hz1 hz2 rfl (by decide) _ o2.length (cellsB o2) rfl (T2.out.o.alloc _) ⟨_, 0, none⟩ 1 1 [.int .u8 92] rfl rfl (cell_one_new _ _ _) TU.out (by decide) t1 t2 t3 _ rfl ?_)
              intro g3 c3 w3 hown' hgrow' hat' hlt'
              have TN := T2.out.push_out (news := [92]) ALB.out rfl hown' hgrow' hat' (by simp)
              obtain ⟨o23, hO⟩ : ∃ o', o' = o2 ++ [92] := ⟨_, rfl⟩
              have hL : o2.length + 1 = o23.length := by rw [hO]; simp
              rw [← hO] at TN
              rw [hL]
              have T3 := hide TN
              have O3 := hide hO
              have L3 : o23.length ≤ o2.length + 1 := Nat.le_of_eq hL.symm
              clear TN hO hL hown' hgrow' hat' hlt' ALB t1 t2 t3 TU 
              have ALB := hide ((Below.refl w3.heap.size w3).alloc (Nat.le_refl _) (.cells #[.int .u8 z] 5))
              have t1 : o23.length + 1 ≤ maxLen := by unfold maxLen; omega
              have t2 : (o23.length + 1) * 1 ≤ 140737488355328 := by omega
              have t3 : W0.heap.size ≤ (w3.alloc (.cells #[.int .u8 z] 5)).heap.size := by have := T3.out.le; simp; omega
              have TU : Hid (∀ u ∈ [Value.int .u8 z], u.oneCell' = true) := by intro u hu; simp at hu; subst hu; rfl
              go_wp2_with (at_builtin; refine wpList_append_lies _ rfl (.tmp 52) (.tmp 54) 23 rfl W0.heap.size 5 i0 (.int .u8 0) 1 1 Try.underlying23 hi hz0 hz1 hz2 rfl (by decide) _ o23.length (cellsB o23) rfl (T3.out.o.alloc _) ⟨_, 0, none⟩ 1 1 [.int .u8 z] rfl rfl (cell_one_new _ _ _) TU.out (by decide) t1 t2 t3 _ rfl ?_)
              intro g4 c4 w4 hown' hgrow' hat' hlt'
              have TN := T3.out.push_out (news := [z]) ALB.out rfl hown' hgrow' hat' (by simp)
              obtain ⟨o234, hO⟩ : ∃ o', o' = o23 ++ [z] := ⟨_, rfl⟩
              have hL : o23.length + 1 = o234.length := by rw [hO]; simp
              rw [← hO] at TN
              rw [hL]
              have T4 := hide TN
              have O4 := hide hO
              have L4 : o234.length ≤ o23.length + 1 := Nat.le_of_eq hL.symm
              clear TN hO hL hown' hgrow' hat' hlt' ALB t1 t2 t3 TU 
              have Q4 : Hid (∀ d p, R out d p → NestLaw.S o234 d p) := fun d p hr => by rw [O4.out, O3.out]; exact S_esc z (Q2.out d p hr)
              clear Q2 O3 O4 T2 T3
              go_wp2
              go_roundw
              case rel => exact ⟨kk + 1, cu3 + 1, _, _, o234, by omega, by go_num, by go_num, by omega, rfl, by omega, T4.out, Q4.out⟩
              case measure => simp [intOf]; omega
            · have u2 : (z == 92) = false := beq_eq_false_iff_ne.2 e2
              have hz2' := e2
              clear e1 e2
              have ALB := hide ((Below.refl wr.heap.size wr).alloc (Nat.le_refl _) (.cells #[.int .u8 z] 5))
              have t1 : o2.length + 1 ≤ maxLen := by unfold maxLen; omega
              have t2 : (o2.length + 1) * 1 ≤ 140737488355328 := by omega
              have t3 : W0.heap.size ≤ (wr.alloc (.cells #[.int .u8 z] 5)).heap.size := by have := T2.out.le; simp; omega
              have T4 : Hid (∀ u ∈ [Value.int .u8 z], u.oneCell' = true) := by intro u hu; simp at hu; subst hu; rfl
              go_wp2_with (at_builtin; refine wpList_append_lies _ rfl (.tmp 52) (.tmp 54) 23 rfl W0.heap.size 5 i0 (.int .u8 0) 1 1 Try.underlying23 hi hz0 hz1 hz2 rfl (by decide) _ o2.length (cellsB o2) rfl (T2.out.o.alloc _) ⟨_, 0, none⟩ 1 1 [.int .u8 z] rfl rfl (cell_one_new _ _ _) T4.out (by decide) t1 t2 t3 _ rfl ?_)
              intro g3 c3 w3 hown' hgrow' hat' hlt'
              have TN := T2.out.push_out (news := [z]) ALB.out rfl hown' hgrow' hat' (by simp)
              obtain ⟨o23, hO⟩ : ∃ o', o' = o2 ++ [z] := ⟨_, rfl⟩
              have hL : o2.length + 1 = o23.length := by rw [hO]; simp
              rw [← hO] at TN
              rw [hL]
              have T3 := hide TN
              have O3 := hide hO
              have L3 : o23.length ≤ o2.length + 1 := Nat.le_of_eq hL.symm
              clear TN hO hL hown' hgrow' hat' hlt' ALB t1 t2 t3 T4 
              have Q3 : Hid (∀ d p, R out d p → NestLaw.S o23 d p) := fun d p hr => by rw [O3.out]; exact S_plain (Q2.out d p hr) hz1' hz2'
              clear Q2 O3 T2
              go_wp2
              go_roundw
              case rel => exact ⟨kk + 1, cu3 + 1, _, _, o23, by omega, by go_num, by go_num, by omega, rfl, by omega, T3.out, Q3.out⟩
              case measure => simp [intOf]; omega
        · have hd1 : decide ((cu3 : Int) < (chars.length : Int)) = false := decide_eq_false (by omega)
          clear S CB
          have ALB := hide ((Below.refl wr.heap.size wr).alloc (Nat.le_refl _) (.cells #[.int .u8 34] 5))
          have t1 : o2.length + 1 ≤ maxLen := by unfold maxLen; omega
          have t2 : (o2.length + 1) * 1 ≤ 140737488355328 := by omega
          have t3 : W0.heap.size ≤ (wr.alloc (.cells #[.int .u8 34] 5)).heap.size := by have := T2.out.le; simp; omega
          have T4 : Hid (∀ u ∈ [Value.int .u8 34], u.oneCell' = true) := by intro u hu; simp at hu; subst hu; rfl
          go_wp2_with (at_builtin; refine wpList_append_lies _ rfl (.tmp 56) (.tmp 57) 23 rfl W0.heap.size 5 i0 (.int .u8 0) 1 1 Try.underlying23 hi hz0 hz1 hz2 rfl (by decide) _ o2.length (cellsB o2) rfl (T2.out.o.alloc _) ⟨_, 0, none⟩ 1 1 [.int .u8 34] rfl rfl (cell_one_new _ _ _) T4.out (by decide) t1 t2 t3 _ rfl ?_)
          intro g3 c3 w3 hown' hgrow' hat' hlt'
          have TN := T2.out.push_out (news := [34]) ALB.out rfl hown' hgrow' hat' (by simp)
          obtain ⟨o23, hO⟩ : ∃ o', o' = o2 ++ [34] := ⟨_, rfl⟩
          have hL : o2.length + 1 = o23.length := by rw [hO]; simp
          rw [← hO] at TN
          rw [hL]
          have T3 := hide TN
          have O3 := hide hO
          have L3 : o23.length ≤ o2.length + 1 := Nat.le_of_eq hL.symm
          clear TN hO hL hown' hgrow' hat' hlt' ALB t1 t2 t3 T4 
          have Q3 : Hid (∀ d p, R out d p → R o23 d p) := fun d p hr => by rw [O3.out]; exact S_quote (Q2.out d p hr)
          go_wp2
          go_ret2
          exact ⟨_, _, _, o23, rfl, T3.out, hcu3, by omega, Q3.out⟩
      · have hd1 : decide ((kk : Int) < nn) = false := decide_eq_false h1
        clear S CB
        have ALB := hide ((Below.refl wr.heap.size wr).alloc (Nat.le_refl _) (.cells #[.int .u8 34] 5))
        have t1 : o2.length + 1 ≤ maxLen := by unfold maxLen; omega
        have t2 : (o2.length + 1) * 1 ≤ 140737488355328 := by omega
        have t3 : W0.heap.size ≤ (wr.alloc (.cells #[.int .u8 34] 5)).heap.size := by have := T2.out.le; simp; omega
        have T4 : Hid (∀ u ∈ [Value.int .u8 34], u.oneCell' = true) := by intro u hu; simp at hu; subst hu; rfl
        go_wp2_with (at_builtin; refine wpList_append_lies _ rfl (.tmp 56) (.tmp 57) 23 rfl W0.heap.size 5 i0 (.int .u8 0) 1 1 Try.underlying23 hi hz0 hz1 hz2 rfl (by decide) _ o2.length (cellsB o2) rfl (T2.out.o.alloc _) ⟨_, 0, none⟩ 1 1 [.int .u8 34] rfl rfl (cell_one_new _ _ _) T4.out (by decide) t1 t2 t3 _ rfl ?_)
        intro g3 c3 w3 hown' hgrow' hat' hlt'
        have TN := T2.out.push_out (news := [34]) ALB.out rfl hown' hgrow' hat' (by simp)
        obtain ⟨o23, hO⟩ : ∃ o', o' = o2 ++ [34] := ⟨_, rfl⟩
        have hL : o2.length + 1 = o23.length := by rw [hO]; simp
        rw [← hO] at TN
        rw [hL]
        have T3 := hide TN
        have O3 := hide hO
        have L3 : o23.length ≤ o2.length + 1 := Nat.le_of_eq hL.symm
        clear TN hO hL hown' hgrow' hat' hlt' ALB t1 t2 t3 T4 
        have Q3 : Hid (∀ d p, R out d p → R o23 d p) := fun d p hr => by rw [O3.out]; exact S_quote (Q2.out d p hr)
        go_wp2
        go_ret2
        exact ⟨_, _, _, o23, rfl, T3.out, hcu3, by omega, Q3.out⟩

end Go.Proofs.Qxb6003728a.Pieces
