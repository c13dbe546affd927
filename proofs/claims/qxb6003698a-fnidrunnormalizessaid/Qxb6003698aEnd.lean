/-
  The walks of endWord (47), add (48), their shims (33, 34) and the two getters (35, 36, 20).
-/
import Derived.Test.Qxb6003698aRun
import Derived.Test.Qxb6003698aZero
import Derived.Deep.RegionLaw
namespace Go.Proofs.Qxb6003698a.End
open Go.RowKit Go.Proofs.Qxb6003698a.Base Go.Proofs.Qxb6003698a.Word Go.Proofs.Qxb6003698a.Run Go.Proofs.Qxb6003698a.Zero

set_option maxRecDepth 1000000 in
set_option maxHeartbeats 800000 in
/-- endWord where the word is empty -/
theorem end_zero (B : Nat) (nv wv : Value) (nrm : List Int) (w : World) (h : ScanAt B nv wv nrm [] false 0 0 false false w) :
    Calls Try.prog 47 #[.pointer (some ⟨B, 0, none⟩)] w fun e w' => e = .returned (.tuple #[]) ∧ ∃ nv' wv', ScanAt B nv' wv' nrm [] false 0 0 false false w' ∧ Fr B nv wv w w' ∧ Fresh nv wv nv' wv' w := by
  obtain ⟨i0, hi, hz0, hz1, hz2⟩ := info_parts info5
  have H := hide h
  obtain ⟨a1, cap1, rfl⟩ := own_slice h.own1
  obtain ⟨a2, cap2, rfl⟩ := own_slice h.own2
  clear h
  go_enter Try.func47, Try.ntmps47
  go_wp2_with fail
  refine (run_plain _ _ _ _ _ _ _ _ _ _ _ H.out (by simp)).mono ?_
  rintro e w1 ⟨rfl, hS, hF⟩
  have h1 : w1.cell? ⟨B, 1, none⟩ = some (.slice a1 nrm.length cap1) := hS.cell 1
  have h7 : w1.cell? ⟨B, 7, none⟩ = some (.slice a2 0 cap2) := hS.cell 7
  have f1 := hS.free 1
  have f7 := hS.free 7
  have K := hide hS
  have KF := hide hF
  clear hS hF H
  go_wp2_with fail
  go_region_law (refine step_append_zero _ rfl _ _ 25 rfl (B + 1) 5 i0 1 Try.underlying25 hi _ nrm.length (cellsB nrm) rfl K.out.own1 a2 cap2 rfl ?_)
  all_goals
    go_wp2
    go_end0
    exact ⟨rfl, _, _, (K.out.same1.same7).drew, ((KF.out.set _ _).set _ _).drew, Fresh.refl _ _ _⟩

set_option maxRecDepth 1000000 in
set_option maxHeartbeats 1600000 in
/-- endWord where the word is not empty -/
theorem end_some (B : Nat) (nv : Value) (g2 cap2 : Nat) (nrm word : List Int) (w : World) (h : ScanAt B nv (.slice (some ⟨g2, 0, none⟩) word.length cap2) nrm word false 0 0 false false w) (hpos : 0 < word.length) (hcap : word.length ≤ cap2) (hm : nrm.length + word.length ≤ 1000000) :
    Calls Try.prog 47 #[.pointer (some ⟨B, 0, none⟩)] w fun e w' => e = .returned (.tuple #[]) ∧ ∃ nv' wv', ScanAt B nv' wv' (nrm ++ word) [] false 0 0 false false w' ∧ Fr B nv (.slice (some ⟨g2, 0, none⟩) word.length cap2) w w' ∧ Fresh nv (.slice (some ⟨g2, 0, none⟩) word.length cap2) nv' wv' w := by
  obtain ⟨i0, hi, hz0, hz1, hz2⟩ := info_parts info5
  have H := hide h
  obtain ⟨a1, cap1, rfl⟩ := own_slice h.own1
  clear h
  go_enter Try.func47, Try.ntmps47
  go_wp2_with fail
  refine (run_plain _ _ _ _ _ _ _ _ _ _ _ H.out (by simp)).mono ?_
  rintro e w1 ⟨rfl, hS, hF⟩
  have h1 : w1.cell? ⟨B, 1, none⟩ = some (.slice a1 nrm.length cap1) := hS.cell 1
  have h7 : w1.cell? ⟨B, 7, none⟩ = some (.slice (some ⟨g2, 0, none⟩) word.length cap2) := hS.cell 7
  have hb1 := Below.drew (Below.refl w1.heap.size w1)
  have c1 : nrm.length + word.length ≤ maxLen := by unfold maxLen; omega
  have c2 : (nrm.length + word.length) * 1 ≤ 140737488355328 := by omega
  have c3 : B + 1 ≤ w1.drew.heap.size := hS.lt_size
  have c4 : ∀ u ∈ cellsB word, u.oneCell' = true := ints_oneCell .u8 word
  have c5 : (cellsB word).length = word.length * 1 := by simp
  have C4 := hide c4
  have C5 := hide c5
  have K := hide hS
  have KF := hide hF
  have HB := hide hb1
  clear hS hF H c4 c5 hb1
  go_wp2_with fail
  go_region_law (refine step_append_lies _ rfl _ _ 25 rfl (B + 1) 5 i0 (.int .u8 0) 1 1 Try.underlying25 hi hz0 hz1 hz2 rfl (by decide) _ nrm.length (cellsB nrm) rfl K.out.own1 ⟨g2, 0, none⟩ word.length cap2 (cellsB word) rfl C5.out (K.out.own2.cells (g := g2) rfl) C4.out hpos c1 c2 c3 _ rfl ?_; intro g cap w2 hown hgrow hat hlt; have e1 := (K.out.grow_cell HB.out hgrow (.inr rfl) 1).1; have f1' := (K.out.grow_cell HB.out hgrow (.inr rfl) 1).2; have e7 := (K.out.grow_cell HB.out hgrow (.inr rfl) 7).1; have f7' := (K.out.grow_cell HB.out hgrow (.inr rfl) 7).2; have R := hide (push_norm K.out HB.out rfl hown hgrow hat rfl); clear hown hgrow hat hlt; simp only [scanCells] at e1 e7)
  all_goals
    go_wp2
    go_end0
    obtain ⟨R1, R2, R3⟩ := R.out
    exact ⟨rfl, _, _, R1.cut7 0 (Nat.zero_le _), (KF.out.trans (Fresh.refl _ _ _) R2).set _ _, Fresh.trans KF.out.size (Fresh.refl _ _ _) R3⟩

/-- endWord -/
theorem end_any (B : Nat) (nv wv : Value) (nrm word : List Int) (w : World) (h : ScanAt B nv wv nrm word false 0 0 false false w) (hm : nrm.length + word.length ≤ 1000000) :
    Calls Try.prog 47 #[.pointer (some ⟨B, 0, none⟩)] w fun e w' => e = .returned (.tuple #[]) ∧ ∃ nv' wv', ScanAt B nv' wv' (nrm ++ word) [] false 0 0 false false w' ∧ Fr B nv wv w w' ∧ Fresh nv wv nv' wv' w := by
  by_cases hp : word = []
  · subst hp
    rw [List.append_nil]
    exact end_zero B nv wv nrm w h
  · have hpos : 0 < word.length := List.length_pos_iff.2 hp
    rcases own_form h.own2 with ⟨rfl, hn⟩ | ⟨g, cap, rfl, hc⟩
    · omega
    · exact end_some B nv g cap nrm word w h hpos hc hm

set_option maxHeartbeats 400000 in
theorem zend_any (B : Nat) (nv wv : Value) (nrm word : List Int) (w : World) (h : ScanAt B nv wv nrm word false 0 0 false false w) (hm : nrm.length + word.length ≤ 1000000) :
    Calls Try.prog 33 #[.pointer (some ⟨B, 0, none⟩)] w fun e w' => e = .returned (.tuple #[]) ∧ ∃ nv' wv', ScanAt B nv' wv' (nrm ++ word) [] false 0 0 false false w' ∧ Fr B nv wv w w' ∧ Fresh nv wv nv' wv' w := by
  have H := hide h
  clear h
  go_enter Try.func33, Try.ntmps33
  go_wp2_with (go_at_call 47; refine (end_any _ _ _ _ _ _ H.out hm).mono ?_; rintro e w' ⟨rfl, hq⟩)
  go_end0
  exact ⟨rfl, hq⟩

set_option maxRecDepth 1000000 in
set_option maxHeartbeats 800000 in
/-- add where there is room -/
theorem add_room (B : Nat) (nv wv : Value) (nrm word : List Int) (d : Bool) (st ln : Int) (dg lt : Bool) (c : Int) (w : World) (h : ScanAt B nv wv nrm word d st ln dg lt w) (hr : nrm.length < 800) :
    Calls Try.prog 48 #[.pointer (some ⟨B, 0, none⟩), .int .u8 c] w fun e w' => e = .returned (.tuple #[]) ∧ ∃ nv', ScanAt B nv' wv (nrm ++ [c]) word d st ln dg lt w' ∧ Fr B nv wv w w' ∧ Fresh nv wv nv' wv w := by
  obtain ⟨i0, hi, hz0, hz1, hz2⟩ := info_parts info5
  have h1 : w.cell? ⟨B, 1, none⟩ = some nv := h.cell 1
  have hB := h.lt_size
  have H := hide h
  obtain ⟨a1, cap1, rfl⟩ := own_slice h.own1
  clear h
  have hbel : Below w.heap.size w (w.alloc (.cells #[.int .u8 c] 5)) := (Below.refl _ _).alloc (by simp) _
  go_enter Try.func48, Try.ntmps48
  go_wp2_with (at_builtin; refine wpList_append_lies _ rfl (.tmp 14) (.tmp 16) 25 rfl (B + 1) 5 i0 (.int .u8 0) 1 1 Try.underlying25 hi hz0 hz1 hz2 rfl (by decide) _ nrm.length (cellsB nrm) rfl ?own ⟨w.heap.size, 0, none⟩ 1 1 [.int .u8 c] rfl rfl ?news ?one (by decide) ?h63 ?hby ?base _ rfl ?_)
  case own => exact (H.out.below hbel).own1
  case news => exact cell_one_new _ _ _
  case one => intro u hu; simp at hu; subst hu; rfl
  case h63 => unfold maxLen; omega
  case hby => omega
  case base => simp; omega
  intro g cap w1 hown hgrow hat hlt
  have R := hide (push_norm (news := [c]) H.out hbel rfl hown hgrow hat (by simp))
  have e1 := (H.out.grow_cell hbel hgrow (.inr rfl) 1).1
  have f1' := (H.out.grow_cell hbel hgrow (.inr rfl) 1).2
  simp only [scanCells] at e1
  clear hown hgrow hat H h1 hbel
  go_wp2
  go_end0
  exact ⟨rfl, _, R.out⟩

set_option maxRecDepth 1000000 in
set_option maxHeartbeats 800000 in
theorem add_full (B : Nat) (nv wv : Value) (nrm word : List Int) (d : Bool) (st ln : Int) (dg lt : Bool) (c : Int) (w : World) (h : ScanAt B nv wv nrm word d st ln dg lt w) (hr : ¬ nrm.length < 800) :
    Calls Try.prog 48 #[.pointer (some ⟨B, 0, none⟩), .int .u8 c] w fun e w' => e = .returned (.tuple #[]) ∧ w' = w := by
  have h1 : w.cell? ⟨B, 1, none⟩ = some nv := h.cell 1
  obtain ⟨a1, cap1, rfl⟩ := own_slice h.own1
  clear h
  have hlt : decide ((nrm.length : Int) < 800) = false := by simp; omega
  go_enter Try.func48, Try.ntmps48
  go_wp2
  go_end0
  exact ⟨rfl, rfl⟩

/-- normalized behind add(c) -/
def normIn (nrm : List Int) (c : Int) : List Int := if nrm.length < 800 then nrm ++ [c] else nrm

theorem add_any (B : Nat) (nv wv : Value) (nrm word : List Int) (d : Bool) (st ln : Int) (dg lt : Bool) (c : Int) (w : World) (h : ScanAt B nv wv nrm word d st ln dg lt w) :
    Calls Try.prog 48 #[.pointer (some ⟨B, 0, none⟩), .int .u8 c] w fun e w' => e = .returned (.tuple #[]) ∧ ∃ nv', ScanAt B nv' wv (normIn nrm c) word d st ln dg lt w' ∧ Fr B nv wv w w' ∧ Fresh nv wv nv' wv w := by
  by_cases hr : nrm.length < 800
  · have e : normIn nrm c = nrm ++ [c] := if_pos hr
    rw [e]
    exact add_room B nv wv nrm word d st ln dg lt c w h hr
  · have e : normIn nrm c = nrm := if_neg hr
    rw [e]
    exact (add_full B nv wv nrm word d st ln dg lt c w h hr).mono fun e w' ⟨he, hw⟩ => by subst hw; exact ⟨he, nv, h, Fr.refl _ _ _ _, Fresh.refl _ _ _⟩

set_option maxHeartbeats 400000 in
theorem zadd_any (B : Nat) (nv wv : Value) (nrm word : List Int) (d : Bool) (st ln : Int) (dg lt : Bool) (c : Int) (w : World) (h : ScanAt B nv wv nrm word d st ln dg lt w) :
    Calls Try.prog 34 #[.pointer (some ⟨B, 0, none⟩), .int .u8 c] w fun e w' => e = .returned (.tuple #[]) ∧ ∃ nv', ScanAt B nv' wv (normIn nrm c) word d st ln dg lt w' ∧ Fr B nv wv w w' ∧ Fresh nv wv nv' wv w := by
  have H := hide h
  clear h
  go_enter Try.func34, Try.ntmps34
  go_wp2_with (go_at_call 48; refine (add_any _ _ _ _ _ _ _ _ _ _ _ _ H.out).mono ?_; rintro e w' ⟨rfl, hq⟩)
  go_end0
  exact ⟨rfl, hq⟩

set_option maxHeartbeats 400000 in
theorem getn (B : Nat) (nv wv : Value) (nrm word : List Int) (d : Bool) (st ln : Int) (dg lt : Bool) (w : World) (h : ScanAt B nv wv nrm word d st ln dg lt w) :
    Calls Try.prog 35 #[.pointer (some ⟨B, 0, none⟩)] w fun e w' => e = .returned nv ∧ w' = w := by
  have h1 : w.cell? ⟨B, 1, none⟩ = some nv := h.cell 1
  clear h
  go_enter Try.func35, Try.ntmps35
  go_wp2
  go_ret
  exact ⟨rfl, rfl⟩
set_option maxHeartbeats 400000 in
theorem getw (B : Nat) (nv wv : Value) (nrm word : List Int) (d : Bool) (st ln : Int) (dg lt : Bool) (w : World) (h : ScanAt B nv wv nrm word d st ln dg lt w) :
    Calls Try.prog 36 #[.pointer (some ⟨B, 0, none⟩)] w fun e w' => e = .returned wv ∧ w' = w := by
  have h1 : w.cell? ⟨B, 7, none⟩ = some wv := h.cell 7
  clear h
  go_enter Try.func36, Try.ntmps36
  go_wp2
  go_ret
  exact ⟨rfl, rfl⟩
set_option maxHeartbeats 400000 in
theorem getw20 (B : Nat) (nv wv : Value) (nrm word : List Int) (d : Bool) (st ln : Int) (dg lt : Bool) (w : World) (h : ScanAt B nv wv nrm word d st ln dg lt w) :
    Calls Try.prog 20 #[.pointer (some ⟨B, 0, none⟩)] w fun e w' => e = .returned wv ∧ w' = w := by
  have h1 : w.cell? ⟨B, 7, none⟩ = some wv := h.cell 7
  clear h
  go_enter Try.func20, Try.ntmps20
  go_wp2
  go_ret
  exact ⟨rfl, rfl⟩

end Go.Proofs.Qxb6003698a.End
