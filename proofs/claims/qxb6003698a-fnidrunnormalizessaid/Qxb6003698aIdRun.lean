/-
  The walk of FnIDRunNormalizes (4).
-/
import Derived.Test.Qxb6003698aNormal
import Derived.Test.Qxb6003698aEnd
import Derived.OpenShut
namespace Go.Proofs.Qxb6003698a.IdRun
open Go.RowKit Go.Proofs.Qxb6003698a.Base Go.Proofs.Qxb6003698a.Word Go.Proofs.Qxb6003698a.Run Go.Proofs.Qxb6003698a.End Go.Proofs.Qxb6003698a.Bytes Go.Proofs.Qxb6003698a.AddRun Go.Proofs.Qxb6003698a.IdLaw Go.Proofs.Qxb6003698a.Normal

set_option maxHeartbeats 400000 in
theorem bytes_yes (s t : ByteArray) (w : World) (h : s.size + t.size ≤ 1048576) :
    Calls Try.prog 14 #[.string s, .string t] w fun e w' => e = .returned (.bool true) ∧ w' = w := by
  have h1 : (s.size : Int) ≤ 1048576 := by omega
  have h2 : (t.size : Int) ≤ 1048576 := by omega
  have h3 : (s.size : Int) + t.size ≤ 1048576 := by omega
  go_enter Try.func14, Try.ntmps14
  go_wp2
  go_ret
  exact ⟨rfl, rfl⟩

set_option maxHeartbeats 400000 in
theorem bytes_no (s t : ByteArray) (w : World) (h : ¬ s.size + t.size ≤ 1048576) (hs : s.size ≤ maxLen) (ht : t.size ≤ maxLen) :
    Calls Try.prog 14 #[.string s, .string t] w fun e w' => e = .returned (.bool false) ∧ w' = w := by
  unfold maxLen at hs ht
  by_cases h1 : (1048576 : Int) < s.size
  · go_enter Try.func14, Try.ntmps14
    go_wp2
    go_ret
    exact ⟨rfl, rfl⟩
  · by_cases h2 : (1048576 : Int) < t.size
    · go_enter Try.func14, Try.ntmps14
      go_wp2
      go_ret
      exact ⟨rfl, rfl⟩
    · have h3 : (1048576 : Int) < s.size + t.size := by omega
      go_enter Try.func14, Try.ntmps14
      go_wp2
      go_ret
      exact ⟨rfl, rfl⟩

set_option maxHeartbeats 400000 in
theorem new16 (w : World) : Calls Try.prog 16 #[] w fun e w' => e = .returned (.pointer (some ⟨w.heap.size, 0, none⟩)) ∧ ScanAt w.heap.size (.slice none 0 0) (.slice none 0 0) [] [] false 0 0 false false w' ∧ Below w.heap.size w w' := by
  go_enter Try.func16, Try.ntmps16
  go_wp2
  go_ret
  exact ⟨rfl, ⟨heap_alloc_new w _, World.ownsRow_nil _ _ _ _, World.ownsRow_nil _ _ _ _, .inl rfl⟩, (Below.refl _ _).alloc (Nat.le_refl _) _⟩

theorem fr_below {B : Nat} {nv wv : Value} {nrm word : List Int} {d : Bool} {st ln : Int} {dg lt : Bool} {w w' : World} (h : ScanAt B nv wv nrm word d st ln dg lt w) (hF : Fr B nv wv w w') : Below B w w' :=
  ⟨hF.os, hF.tape, hF.output, hF.size, fun k hk => hF.block k (Nat.lt_trans hk h.lt_size) (by omega)
    (fun e => by have := own_ge h.own1 e.symm; omega) (fun e => by have := own_ge h.own2 e.symm; omega)⟩

/-- what is known of the scan -/
def St (B : Nat) (W0 : World) (word : List UInt8) (d : Bool) (st ln : Int) (dg lt : Bool) (wr : World) : Prop :=
  (∃ wv, ScanAt B (.slice none 0 0) wv [] (U word) d st ln dg lt wr) ∧ Below B W0 wr

section
variable {B : Nat} {W0 wr : World} {pre l : List UInt8}

theorem st_word {word : List UInt8} (c : UInt8) (h : St B W0 word false 0 0 false false wr) (hr : word.length < 800) :
    Calls Try.prog 17 #[.pointer (some ⟨B, 0, none⟩), .int .u8 (c.toNat : Int)] wr fun e w' => e = .returned (.tuple #[]) ∧ St B W0 (word ++ [c]) false 0 0 false false w' := by
  obtain ⟨⟨wv, hS⟩, hb⟩ := h
  refine (zword_room B _ wv [] (U word) false 0 0 false false c.toNat wr hS (by simp; omega)).mono fun e w' ⟨he, wv', hS', hF, _⟩ => ⟨he, ⟨wv', ?_⟩, hb.trans (fr_below hS hF)⟩
  rw [U_append]; exact hS'

/-- the state behind k bytes of the run -/
def Rn (B : Nat) (W0 : World) (pre l : List UInt8) (k : Nat) (wr : World) : Prop := St B W0 (pre ++ NT l k) (prevD l k) (stAt pre k) (lnAt k) (anyD l k) (anyL l k) wr

theorem st_run (k : Nat) (c : UInt8) (hc : l.getD k 0 = c) (h : Rn B W0 pre l k wr) (hr : pre.length + k < 800) :
    Calls Try.prog 18 #[.pointer (some ⟨B, 0, none⟩), .int .u8 (c.toNat : Int)] wr fun e w' => e = .returned (.tuple #[]) ∧ Rn B W0 pre l (k + 1) w' := by
  obtain ⟨⟨wv, hS⟩, hb⟩ := h
  have hn := NT_len l k
  have h0 : 0 ≤ lnAt k := by unfold lnAt; omega
  have h8 : lnAt k ≤ 8 := by unfold lnAt; omega
  refine (zrun_add B _ wv [] (U (pre ++ NT l k)) _ _ _ _ _ c.toNat wr hS (by simp; omega) h0 h8).mono fun e w' ⟨he, wv', hS', hF, _⟩ => ⟨he, ⟨wv', ?_⟩, hb.trans (fr_below hS hF)⟩
  rw [← hc, run_step, st_step, ln_step] at hS'
  exact hS'

theorem st_end (h : Rn B W0 pre l l.length wr) (hp : 0 < l.length) (hr : pre.length + l.length ≤ 700) :
    Calls Try.prog 19 #[.pointer (some ⟨B, 0, none⟩)] wr fun e w' => e = .returned (.tuple #[]) ∧ St B W0 (pre ++ nf l) false 0 0 false false w' := by
  obtain ⟨⟨wv, hS⟩, hb⟩ := h
  by_cases hid : (8 ≤ l.length ∧ anyD l l.length = true) ∧ anyL l l.length = true
  · have e1 : nf l = [88] := if_pos hid
    have e2 : lnAt l.length = 8 := by unfold lnAt; omega
    have e3 : stAt pre l.length = (pre.length : Int) := if_neg (by omega)
    rw [e2, e3, hid.1.2, hid.2] at hS
    have hpos : 0 < (U (pre ++ NT l l.length)).length := by
      obtain ⟨n, hn⟩ : ∃ n, l.length = n + 1 := ⟨l.length - 1, by omega⟩
      have := NT_pos l n
      rw [hn]; simp; omega
    rcases own_form hS.own2 with ⟨rfl, hn⟩ | ⟨g, cap, rfl, hc⟩
    · omega
    · refine (zrun_id B _ g cap [] (U (pre ++ NT l l.length)) _ pre.length wr hS (by simp) hc (by simp; omega)).mono fun e w' ⟨he, wv', hS', hF, _⟩ => ⟨he, ⟨wv', ?_⟩, hb.trans (fr_below hS hF)⟩
      rw [take_pre] at hS'
      rw [e1, U_append]
      exact hS'
  · have e1 : nf l = NT l l.length := if_neg hid
    refine (zrun_plain B _ wv [] (U (pre ++ NT l l.length)) _ _ _ _ _ wr hS ?_).mono fun e w' ⟨he, hS', hF⟩ => ⟨he, ⟨wv, ?_⟩, hb.trans (fr_below hS hF)⟩
    · rintro ⟨a, b, c⟩
      exact hid ⟨⟨by unfold lnAt at a; omega, b⟩, c⟩
    · rw [e1]; exact hS'

theorem st_again {word : List UInt8} (h : St B W0 word false 0 0 false false wr) :
    Calls Try.prog 19 #[.pointer (some ⟨B, 0, none⟩)] wr fun e w' => e = .returned (.tuple #[]) ∧ St B W0 word false 0 0 false false w' := by
  obtain ⟨⟨wv, hS⟩, hb⟩ := h
  exact (zrun_plain B _ wv [] (U word) _ _ _ _ _ wr hS (by simp)).mono fun e w' ⟨he, hS', hF⟩ => ⟨he, ⟨wv, hS'⟩, hb.trans (fr_below hS hF)⟩

/-- the word, as the getter gives it: and what string(..) makes of it -/
theorem st_get {word : List UInt8} (h : St B W0 word false 0 0 false false wr) (hp : 0 < word.length) :
    Calls Try.prog 20 #[.pointer (some ⟨B, 0, none⟩)] wr fun e w' => (∃ g cap, e = .returned (.slice (some ⟨g, 0, none⟩) word.length cap) ∧ (convert 25 9 (.slice (some ⟨g, 0, none⟩) word.length cap)).run Try.prog wr = .ok (.string ⟨word.toArray⟩) wr) ∧ w' = wr := by
  obtain ⟨⟨wv, hS⟩, hb⟩ := h
  rcases own_form hS.own2 with ⟨rfl, hn⟩ | ⟨g, cap, rfl, hc⟩
  · simp at hn; subst hn; simp at hp
  · have ho := hS.own2
    simp only [U_length] at ho hS
    exact (getw20 B _ _ [] (U word) false 0 0 false false wr hS).mono fun e w' ⟨he, hw⟩ =>
      ⟨⟨g, cap, he, run_convert_bytes_back wr 25 9 5 ⟨g, 0, none⟩ cap word Try.underlying25 Try.underlying5 Try.underlying9 (conv_cells ho)⟩, hw⟩

end

set_option maxHeartbeats 400000 in
/-- the ways out ahead of the loops -/
theorem walk_short (p t : ByteArray) (w : World) (hp : p.size ≤ maxLen) (ht : t.size ≤ maxLen) (h : ¬ (p.size + t.size ≤ 700 ∧ 0 < t.size)) :
    Calls Try.prog 4 #[.string p, .string t] w fun e w' => e = .returned (.bool true) ∧ w' = w := by
  by_cases hb : p.size + t.size ≤ 1048576
  · by_cases h1 : (1024 : Int) < (p.size : Int)
    · go_enter Try.func4, Try.ntmps4
      go_wp2_with (go_at_call 14; refine (bytes_yes _ _ _ hb).mono ?_; rintro e w' ⟨rfl, rfl⟩)
      go_ret
      exact ⟨rfl, rfl⟩
    · by_cases h2 : (1024 : Int) < (t.size : Int)
      · go_enter Try.func4, Try.ntmps4
        go_wp2_with (go_at_call 14; refine (bytes_yes _ _ _ hb).mono ?_; rintro e w' ⟨rfl, rfl⟩)
        go_ret
        exact ⟨rfl, rfl⟩
      · by_cases h3 : (700 : Int) < (p.size : Int) + (t.size : Int)
        · go_enter Try.func4, Try.ntmps4
          go_wp2_with (go_at_call 14; refine (bytes_yes _ _ _ hb).mono ?_; rintro e w' ⟨rfl, rfl⟩)
          go_ret
          exact ⟨rfl, rfl⟩
        · have h4 : ((t.size : Int) == 0) = true := beq_iff_eq.2 (by omega)
          go_enter Try.func4, Try.ntmps4
          go_wp2_with (go_at_call 14; refine (bytes_yes _ _ _ hb).mono ?_; rintro e w' ⟨rfl, rfl⟩)
          go_ret
          exact ⟨rfl, rfl⟩
  · go_enter Try.func4, Try.ntmps4
    go_wp2_with (go_at_call 14; refine (bytes_no _ _ _ hb hp ht).mono ?_; rintro e w' ⟨rfl, rfl⟩)
    go_ret
    exact ⟨rfl, rfl⟩

set_option maxRecDepth 100000 in
set_option maxHeartbeats 4000000 in
theorem walk_main (p t : ByteArray) (w : World) (h : p.size + t.size ≤ 700) (h0 : 0 < t.size) :
    Calls Try.prog 4 #[.string p, .string t] w fun e w' => e = .returned (.bool true) ∧ Below w.heap.size w w' := by
  have d1 : decide ((1024 : Int) < (p.size : Int)) = false := decide_eq_false (by omega)
  have d2 : decide ((1024 : Int) < (t.size : Int)) = false := decide_eq_false (by omega)
  have d3 : decide ((700 : Int) < (p.size : Int) + (t.size : Int)) = false := decide_eq_false (by omega)
  have d4 : ((t.size : Int) == 0) = false := beq_eq_false_iff_ne.2 (by omega)
  obtain ⟨pl, hpl⟩ : ∃ pl, pl = p.data.toList := ⟨_, rfl⟩
  obtain ⟨tl, htl⟩ : ∃ tl, tl = t.data.toList := ⟨_, rfl⟩
  have PL : Hid (pl.length = p.size) := by show pl.length = _; rw [hpl, Lib.size_eq]
  have TL : Hid (tl.length = t.size) := by show tl.length = _; rw [htl, Lib.size_eq]
  have PB : Hid (∀ k (hk : k < p.size), pl.getD k 0 = p[k]) := fun k hk => by rw [hpl]; exact byte_at p k hk
  have TB : Hid (∀ k (hk : k < t.size), tl.getD k 0 = t[k]) := fun k hk => by rw [htl]; exact byte_at t k hk
  have HP := hide hpl
  have HT := hide htl
  clear hpl htl
  go_enter Try.func4, Try.ntmps4
  go_wp2_with (go_at_call 14; refine (bytes_yes _ _ _ (by omega)).mono ?_; rintro e w' ⟨rfl, rfl⟩)
  go_loop [5] (fun i => ∃ k : Nat, k ≤ t.size ∧ i = .int .i64 k) (fun i => t.size - (intOf i).toNat)
  case atStart => exact ⟨0, Nat.zero_le _, rfl⟩
  case round =>
    obtain ⟨k, hk, rfl⟩ := hrel
    by_cases hlt : k < t.size
    · cases hI : idB (t[k].toNat : Int) with
      | false =>
        go_wp2_with (go_at_call 15; refine (id15 _ _).mono ?_; rintro e w' ⟨rfl, rfl⟩)
        go_ret
        exact ⟨rfl, Below.refl _ _⟩
      | true =>
        go_wp2_with (go_at_call 15; refine (id15 _ _).mono ?_; rintro e w' ⟨rfl, rfl⟩)
        go_round
        case rel => exact ⟨k + 1, by omega, by go_num⟩
        case measure => simp [intOf]; omega
    · go_wp2_with fail
      refine (new16 _).mono ?_
      rintro e w1 ⟨rfl, hS, hB⟩
      have S0 : Hid (St w'.heap.size w' (pl.take 0) false 0 0 false false w1) := ⟨⟨_, hS⟩, hB⟩
      clear hS hB
      go_wp2
      go_loopw [7] (fun i wr => ∃ k : Nat, k ≤ p.size ∧ i = .int .i64 k ∧ St w'.heap.size w' (pl.take k) false 0 0 false false wr) (fun i _ => p.size - (intOf i).toNat)
      case atStart => exact ⟨0, Nat.zero_le _, rfl, S0.out⟩
      case round =>
        obtain ⟨k2, hk2, rfl, hS⟩ := hrel
        have HS := hide hS
        clear hS S0
        by_cases hlt2 : k2 < p.size
        · have e : Hid (pl.take (k2 + 1) = pl.take k2 ++ [p[k2]]) := by
            have h1 : k2 < pl.length := by rw [PL.out]; exact hlt2
            have h2 := PB.out k2 hlt2
            show pl.take (k2 + 1) = _
            rw [List.take_succ_eq_append_getElem h1]
            rw [List.getD, List.getElem?_eq_getElem h1] at h2
            rw [← h2]; rfl
          have hl : (pl.take k2).length < 800 := by simp; omega
          go_wp2_with (go_at_call 17; refine (st_word _ HS.out hl).mono ?_; rintro e w3 ⟨rfl, hq⟩)
          have HQ := hide hq
          clear hq
          go_roundw
          case rel => exact ⟨k2 + 1, by omega, by go_num, by rw [e.out]; exact HQ.out⟩
          case measure => simp [intOf]; omega
        · have e2 : pl.take k2 = pl ++ NT tl 0 := by
            rw [List.take_of_length_le (by rw [PL.out]; omega)]; simp [NT]
          have R0 : Hid (Rn w'.heap.size w' pl tl 0 wr) := by
            have := HS.out
            rw [e2] at this
            exact this
          clear HS e2
          go_wp2
          go_loopw [8] (fun i wr => ∃ k : Nat, k ≤ t.size ∧ i = .int .i64 k ∧ Rn w'.heap.size w' pl tl k wr) (fun i _ => t.size - (intOf i).toNat)
          case atStart => exact ⟨0, Nat.zero_le _, rfl, R0.out⟩
          case round =>
            obtain ⟨k3, hk3, rfl, hS⟩ := hrel
            have HS := hide hS
            clear hS R0
            by_cases hlt3 : k3 < t.size
            · have hl : pl.length + k3 < 800 := by rw [PL.out]; omega
              have hc := hide (TB.out k3 hlt3)
              go_wp2_with (go_at_call 18; refine (st_run _ _ hc.out HS.out hl).mono ?_; rintro e w3 ⟨rfl, hq⟩)
              have HQ := hide hq
              clear hq
              go_roundw
              case rel => exact ⟨k3 + 1, by omega, by go_num, HQ.out⟩
              case measure => simp [intOf]; omega
            · have e3 : k3 = tl.length := by rw [TL.out]; omega
              have R1 : Hid (Rn w'.heap.size w' pl tl tl.length wr) := by rw [← e3]; exact HS.out
              have hp1 : 0 < tl.length := by rw [TL.out]; exact h0
              have hp2 : pl.length + tl.length ≤ 700 := by rw [TL.out, PL.out]; omega
              have hp3 : 0 < (pl ++ nf tl).length := by have := nf_pos tl hp1; simp; omega
              clear HS e3
              go_wp2_with fail
              refine (st_end R1.out hp1 hp2).mono ?_
              rintro e w4 ⟨rfl, hq4⟩
              obtain ⟨wd, hwd⟩ : ∃ wd, wd = pl ++ nf tl := ⟨_, rfl⟩
              rw [← hwd] at hq4 hp3
              have WD := hide hwd
              clear hwd
              go_wp2_with fail
              refine (st_get hq4 hp3).mono ?_
              rintro e w5 ⟨⟨g5, c5, rfl, hcv5⟩, rfl⟩
              go_wp2_with fail
              refine (st_again hq4).mono ?_
              rintro e w6 ⟨rfl, hq6⟩
              clear hcv5
              go_wp2_with fail
              refine (st_get hq6 hp3).mono ?_
              rintro e w7 ⟨⟨g7, c7, rfl, hcv7⟩, rfl⟩
              go_wp2_with fail
              refine (normal_any t _ (by omega)).mono ?_
              rintro e w8 ⟨rfl, hb8⟩
              obtain ⟨nn, hnn⟩ : ∃ nn, nn = nf t.data.toList := ⟨_, rfl⟩
              rw [← hnn]
              have hnl : nn.length ≤ 1024 := by
                rw [hnn, ← HT.out]
                have := NT_len tl tl.length
                unfold nf; split
                · simp
                · omega
              have NN := hide hnn
              have hfin : Below w'.heap.size w' w8 := hq6.2.trans (hb8.mono hq6.2.size)
              have HF := hide hfin
              clear hnn hcv7 hfin hq6 hb8
              have key : Hid (wd = (p ++ { data := nn.toArray } : ByteArray).toList) := by
                show wd = _
                rw [Lib.toList_data, WD.out, NN.out, ← HT.out, HP.out]
                simp
              go_wp2
              go_ret
              exact ⟨rfl, HF.out⟩

theorem walk (p t : ByteArray) (w : World) (hp : p.size ≤ maxLen) (ht : t.size ≤ maxLen) :
    Calls Try.prog 4 #[.string p, .string t] w fun e w' => e = .returned (.bool true) ∧ Below w.heap.size w w' := by
  by_cases h : p.size + t.size ≤ 700 ∧ 0 < t.size
  · exact walk_main p t w h.1 h.2
  · exact (walk_short p t w hp ht h).mono fun e w' ⟨he, hw⟩ => by subst hw; exact ⟨he, Below.refl _ _⟩

end Go.Proofs.Qxb6003698a.IdRun
