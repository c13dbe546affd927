/-
  The walk of zzNormalID (21).
-/
import Derived.Test.Qxb6003698aIdLaw
import Derived.Laws.IdiomStrings
import Derived.Lib.Strings
namespace Go.Proofs.Qxb6003698a.Normal
open Go.RowKit Go.Proofs.Qxb6003698a.Base Go.Proofs.Qxb6003698a.Word Go.Proofs.Qxb6003698a.Bytes Go.Proofs.Qxb6003698a.IdLaw

theorem ret_str {a b : ByteArray} (h : a = b) : Ending.returned (.string a) = .returned (.string b) := by rw [h]

theorem byte_at (s : ByteArray) (k : Nat) (hk : k < s.size) : s.data.toList.getD k 0 = s[k] := by
  have h : k < s.data.toList.length := by simpa using hk
  rw [List.getD, List.getElem?_eq_getElem h]; rfl

theorem conv_cells {w : World} {base g cap : Nat} {l : List UInt8} (h : w.ownsRow base 5 1 (.slice (some ⟨g, 0, none⟩) l.length cap) l.length (cellsB (U l))) :
    ∀ j (hj : j < l.length), w.cell? ((⟨g, 0, none⟩ : Addr).add j) = some (.int .u8 (l[j].toNat : Int)) := by
  intro j hj
  have e1 : (⟨g, 0, none⟩ : Addr).add j = ⟨g, j, none⟩ := by unfold Addr.add; split <;> simp_all
  rw [e1, h.cellAt j (by omega)]
  simp [cellsB, U, hj]

theorem grown_nt {w1 : World} {base g cap k : Nat} {l : List UInt8} {x : UInt8} (hE : NT l (k + 1) = NT l k ++ [x])
    (hown : w1.ownsRow base 5 1 (.slice (some ⟨g, 0, none⟩) ((NT l k).length + 1) cap) ((NT l k).length + 1) (cellsB (U (NT l k)) ++ [.int .u8 (x.toNat : Int)])) :
    w1.ownsRow base 5 1 (.slice (some ⟨g, 0, none⟩) (NT l (k + 1)).length cap) (NT l (k + 1)).length (cellsB (U (NT l (k + 1)))) ∧ (NT l k).length + 1 = (NT l (k + 1)).length := by
  have e : (NT l (k + 1)).length = (NT l k).length + 1 := by rw [hE]; simp
  rw [e, hE, U_append, cellsB_append]
  exact ⟨hown, rfl⟩

set_option maxRecDepth 100000 in
set_option maxHeartbeats 4000000 in
theorem normal_any (s : ByteArray) (w : World) (hs : s.size ≤ 1024) :
    Calls Try.prog 21 #[.string s] w fun e w' => e = .returned (.string ⟨(nf s.data.toList).toArray⟩) ∧ Below w.heap.size w w' := by
  obtain ⟨i0, hi, hz0, hz1, hz2⟩ := info_parts info5
  obtain ⟨l, hl⟩ : ∃ l, l = s.data.toList := ⟨_, rfl⟩
  have hsz : l.length = s.size := by rw [hl, Lib.size_eq]
  have hb : ∀ k (hk : k < s.size), l.getD k 0 = s[k] := fun k hk => by rw [hl]; exact byte_at s k hk
  have HB := hide hb
  have HL := hide hl
  have HS := hide hsz
  clear hb hl hsz
  go_enter Try.func21, Try.ntmps21
  go_wp2
  go_loop [3, 4, 5] (fun d t i => ∃ k : Nat, k ≤ s.size ∧ i = .int .i64 k ∧ d = .bool (anyD l k) ∧ t = .bool (anyL l k)) (fun _ _ i => s.size - (intOf i).toNat)
  case atStart => exact ⟨0, Nat.zero_le _, rfl, rfl, rfl⟩
  case round =>
    obtain ⟨k, hk, rfl, rfl, rfl⟩ := hrel
    by_cases hlt : k < s.size
    · have ed : Hid (anyD l (k + 1) = (anyD l k || digB (s[k].toNat : Int))) := by
        show anyD l (k + 1) = _
        rw [← HB.out k hlt]; rfl
      have el : Hid (anyL l (k + 1) = (anyL l k || letB (s[k].toNat : Int))) := by
        show anyL l (k + 1) = _
        rw [← HB.out k hlt]; rfl
      cases hD : digB (s[k].toNat : Int) <;> cases hL : letB (s[k].toNat : Int)
      all_goals
        rw [hD] at ed
        rw [hL] at el
        go_wp2_with (first | (go_at_call 40; refine (dig40 _ _).mono ?_; rintro e w' ⟨rfl, rfl⟩) | (go_at_call 41; refine (let41 _ _).mono ?_; rintro e w' ⟨rfl, rfl⟩))
        go_round
        case rel => exact ⟨k + 1, by omega, by go_num, by rw [ed.out]; simp, by rw [el.out]; simp⟩
        case measure => simp [intOf]; omega
    · have e : k = l.length := by have := HS.out; omega
      have g8 : (8 ≤ l.length) ↔ (8 : Int) ≤ (s.size : Int) := by rw [HS.out]; omega
      rw [← e] at g8
      obtain ⟨isId, hid⟩ : ∃ b : Bool, b = decide ((8 ≤ k ∧ anyD l k = true) ∧ anyL l k = true) := ⟨_, rfl⟩
      have HI := hide hid
      have G8 := hide g8
      have E := hide e
      clear hid g8 e
      go_upto_region 10 with fail
      go_cut [3, 4, 31] (fun _ _ v w1 => v = .bool isId ∧ w1 = w)
      case first =>
        by_cases h8 : (8 : Int) ≤ (s.size : Int) <;> cases hA : anyD l k <;> cases hB : anyL l k
        all_goals
          go_wp2
          go_meet
          case rel => exact ⟨by rw [HI.out]; have := G8.out; simp [hA, hB]; try omega, rfl⟩
      case rest =>
        obtain ⟨rfl, rfl⟩ := hcut
        cases isId with
        | true =>
          have hn : Hid (nf s.data.toList = [88]) := by
            have h1 := HI.out
            rw [E.out] at h1
            show nf s.data.toList = _
            rw [← HL.out]
            exact if_pos (of_decide_eq_true h1.symm)
          go_wp2
          go_ret
          exact ⟨ret_str (by rw [hn.out]), Below.refl _ _⟩
        | false =>
          have hn : Hid (nf s.data.toList = NT l l.length) := by
            have h1 := HI.out
            rw [E.out] at h1
            show nf s.data.toList = _
            rw [← HL.out]
            exact if_neg (of_decide_eq_false h1.symm)
          go_wp2_with (at_make; refine wpList_make_own _ rfl _ _ 25 rfl wc.heap.size 5 i0 (.int .u8 0) 1 Try.underlying25 hi hz0 hz1 .i64 .i64 _ s.size rfl rfl rfl ?b2 ?b3 ?b4 ?_)
          case b2 => omega
          case b3 => unfold maxLen; omega
          intro w1 hown hgrow
          have hb1 : Below wc.heap.size wc w1 := (Below.refl _ _).grown hgrow (Nat.le_refl _) (fun k h => by cases h)
          have O := hide hown
          have BB := hide hb1
          clear hown hgrow hb1 HI G8 E
          go_wp2
          go_loopw [6, 7] (fun v i wr => ∃ (k g cap : Nat), k ≤ s.size ∧ i = .int .i64 k ∧ v = .slice (some ⟨g, 0, none⟩) (NT l k).length cap ∧ wr.ownsRow wc.heap.size 5 1 (.slice (some ⟨g, 0, none⟩) (NT l k).length cap) (NT l k).length (cellsB (U (NT l k))) ∧ Below wc.heap.size wc wr) (fun _ i _ => s.size - (intOf i).toNat)
          case atStart => exact ⟨0, wc.heap.size, s.size, Nat.zero_le _, rfl, rfl, O.out, BB.out⟩
          case round =>
            obtain ⟨k, g, cap, hk, rfl, rfl, hown, hbel⟩ := hrel
            have hnl := NT_len l k
            by_cases hlt : k < s.size
            · have hpc : Hid (piece l k = if digB (s[k].toNat : Int) = false then [s[k]] else if prevD l k = false then [78] else []) := by
                show piece l k = _
                unfold piece isD
                rw [HB.out k hlt]
              have hnx : Hid (NT l (k + 1) = NT l k ++ piece l k) := rfl
              have OW := hide hown
              have HBL := hide hbel
              have hbs := hide hbel.size
              clear hown hbel O BB
              cases hD : digB (s[k].toNat : Int) with
              | false =>
                have hE : Hid (NT l (k + 1) = NT l k ++ [s[k]]) := by
                  show NT l (k + 1) = _
                  rw [hnx.out, hpc.out, if_pos hD]
                have hal : Below wc.heap.size wc (wr.alloc (.cells #[.int .u8 (s[k].toNat : Int)] 5)) := HBL.out.alloc hbs.out _
                have t1 : (NT l k).length + 1 ≤ maxLen := by unfold maxLen; omega
                have t2 : ((NT l k).length + 1) * 1 ≤ 140737488355328 := by omega
                have t3 : wc.heap.size ≤ (wr.alloc (.cells #[.int .u8 (s[k].toNat : Int)] 5)).heap.size := by have := hbs.out; simp; omega
                have T4 : Hid (∀ u ∈ [Value.int .u8 (s[k].toNat : Int)], u.oneCell' = true) := by intro u hu; simp at hu; subst hu; rfl
                have AL := hide hal
                clear hal
                go_wp2_with (first | (go_at_call 40; refine (dig40 _ _).mono ?_; rintro e w' ⟨rfl, rfl⟩) | (at_builtin; refine wpList_append_lies _ rfl (.tmp 47) (.tmp 49) 25 rfl wc.heap.size 5 i0 (.int .u8 0) 1 1 Try.underlying25 hi hz0 hz1 hz2 rfl (by decide) _ (NT l k).length (cellsB (U (NT l k))) rfl (OW.out.alloc _) ⟨_, 0, none⟩ 1 1 [.int .u8 (s[k].toNat : Int)] rfl rfl (cell_one_new _ _ _) T4.out (by decide) t1 t2 t3 _ rfl ?_))
                intro g' cap' w4 hown' hgrow' hat' hlt'
                obtain ⟨R1, R2⟩ := grown_nt (x := s[k]) hE.out hown'
                have R3 := AL.out.grown hgrow' t3 (fun k hk => own_ge OW.out hk)
                have Q1 := hide R1
                have Q3 := hide R3
                rw [R2]
                clear R1 R2 R3 hown' hgrow' hat' hlt' OW HBL AL T4 hE
                go_wp2
                go_roundw
                case rel => exact ⟨_, g', cap', by omega, by go_num, rfl, Q1.out, Q3.out⟩
                case measure => simp [intOf]; omega
              | true =>
                by_cases hk0 : k = 0
                · subst hk0
                  have hE : Hid (NT l (0 + 1) = NT l 0 ++ [78]) := by
                    show NT l (0 + 1) = _
                    rw [hnx.out, hpc.out, if_neg (by rw [hD]; simp), if_pos (show prevD l 0 = false from rfl)]
                  have hal : Below wc.heap.size wc (wr.alloc (.cells #[.int .u8 78] 5)) := HBL.out.alloc hbs.out _
                  have t1 : (NT l 0).length + 1 ≤ maxLen := by unfold maxLen; omega
                  have t2 : ((NT l 0).length + 1) * 1 ≤ 140737488355328 := by omega
                  have t3 : wc.heap.size ≤ (wr.alloc (.cells #[.int .u8 78] 5)).heap.size := by have := hbs.out; simp; omega
                  have T4 : Hid (∀ u ∈ [Value.int .u8 78], u.oneCell' = true) := by intro u hu; simp at hu; subst hu; rfl
                  have AL := hide hal
                  clear hal
                  go_wp2_with (first | (go_at_call 40; refine (dig40 _ _).mono ?_; rintro e w' ⟨rfl, rfl⟩) | (at_builtin; refine wpList_append_lies _ rfl (.tmp 60) (.tmp 61) 25 rfl wc.heap.size 5 i0 (.int .u8 0) 1 1 Try.underlying25 hi hz0 hz1 hz2 rfl (by decide) _ (NT l 0).length (cellsB (U (NT l 0))) rfl (OW.out.alloc _) ⟨_, 0, none⟩ 1 1 [.int .u8 78] rfl rfl (cell_one_new _ _ _) T4.out (by decide) t1 t2 t3 _ rfl ?_))
                  intro g' cap' w4 hown' hgrow' hat' hlt'
                  obtain ⟨R1, R2⟩ := grown_nt (x := 78) hE.out hown'
                  have R3 := AL.out.grown hgrow' t3 (fun k hk => own_ge OW.out hk)
                  have Q1 := hide R1
                  have Q3 := hide R3
                  rw [R2]
                  clear R1 R2 R3 hown' hgrow' hat' hlt' OW HBL AL T4 hE
                  go_wp2
                  go_roundw
                  case rel => exact ⟨_, g', cap', by omega, by go_num, rfl, Q1.out, Q3.out⟩
                  case measure => simp [intOf]; omega
                · obtain ⟨m, rfl⟩ : ∃ m, k = m + 1 := ⟨k - 1, by omega⟩
                  have hm : m < s.size := by omega
                  have hpv : Hid (prevD l (m + 1) = digB (s[m].toNat : Int)) := by
                    show isD (l.getD m 0) = _
                    rw [HB.out m hm]; rfl
                  cases hP : digB (s[m].toNat : Int) with
                  | false =>
                    have hE : Hid (NT l (m + 1 + 1) = NT l (m + 1) ++ [78]) := by
                      show NT l (m + 1 + 1) = _
                      rw [hnx.out, hpc.out, if_neg (by rw [hD]; simp), if_pos (by rw [hpv.out, hP])]
                    have hal : Below wc.heap.size wc (wr.alloc (.cells #[.int .u8 78] 5)) := HBL.out.alloc hbs.out _
                    have t1 : (NT l (m + 1)).length + 1 ≤ maxLen := by unfold maxLen; omega
                    have t2 : ((NT l (m + 1)).length + 1) * 1 ≤ 140737488355328 := by omega
                    have t3 : wc.heap.size ≤ (wr.alloc (.cells #[.int .u8 78] 5)).heap.size := by have := hbs.out; simp; omega
                    have T4 : Hid (∀ u ∈ [Value.int .u8 78], u.oneCell' = true) := by intro u hu; simp at hu; subst hu; rfl
                    have AL := hide hal
                    clear hal
                    go_wp2_with (first | (go_at_call 40; refine (dig40 _ _).mono ?_; rintro e w' ⟨rfl, rfl⟩) | (at_builtin; refine wpList_append_lies _ rfl (.tmp 60) (.tmp 61) 25 rfl wc.heap.size 5 i0 (.int .u8 0) 1 1 Try.underlying25 hi hz0 hz1 hz2 rfl (by decide) _ (NT l (m + 1)).length (cellsB (U (NT l (m + 1)))) rfl (OW.out.alloc _) ⟨_, 0, none⟩ 1 1 [.int .u8 78] rfl rfl (cell_one_new _ _ _) T4.out (by decide) t1 t2 t3 _ rfl ?_))
                    intro g' cap' w4 hown' hgrow' hat' hlt'
                    obtain ⟨R1, R2⟩ := grown_nt (x := 78) hE.out hown'
                    have R3 := AL.out.grown hgrow' t3 (fun k hk => own_ge OW.out hk)
                    have Q1 := hide R1
                    have Q3 := hide R3
                    rw [R2]
                    clear R1 R2 R3 hown' hgrow' hat' hlt' OW HBL AL T4 hE
                    go_wp2
                    go_roundw
                    case rel => exact ⟨_, g', cap', by omega, by go_num, rfl, Q1.out, Q3.out⟩
                    case measure => simp [intOf]; omega
                  | true =>
                    have hE : NT l (m + 1 + 1) = NT l (m + 1) := by
                      rw [hnx.out, hpc.out, if_neg (by rw [hD]; simp), if_neg (by rw [hpv.out, hP]; simp), List.append_nil]
                    have HE := hide hE
                    clear hE
                    go_wp2_with (go_at_call 40; refine (dig40 _ _).mono ?_; rintro e w' ⟨rfl, rfl⟩)
                    go_roundw
                    case rel => exact ⟨m + 1 + 1, g, cap, by omega, by go_num, by rw [HE.out], by rw [HE.out]; exact OW.out, HBL.out⟩
                    case measure => simp [intOf]; omega
            · have e : k = l.length := by have := HS.out; omega
              rw [e] at hown
              have hcv := run_convert_bytes_back (P := Try.prog) wr 25 9 5 ⟨g, 0, none⟩ cap (NT l l.length) Try.underlying25 Try.underlying5 Try.underlying9 (conv_cells hown)
              rw [← e] at hcv
              have HBL := hide hbel
              have E := hide e
              clear hown hbel e O BB
              go_wp2
              go_ret
              exact ⟨ret_str (by rw [hn.out, ← E.out]), HBL.out⟩

end Go.Proofs.Qxb6003698a.Normal
