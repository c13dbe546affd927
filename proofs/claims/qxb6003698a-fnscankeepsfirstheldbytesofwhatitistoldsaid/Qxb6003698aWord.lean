/-
  The walks of addToWord (42) and its shims (32, 17).
-/
import Derived.Test.Qxb6003698aRows
import Derived.Test.Qxb6003698aBase
import Derived.Outline
import Derived.RegionTactic
import Derived.Deep.QuietTactic
import Derived.BigQuiet
import Derived.WalkSpells
import Derived.WalkSmall
namespace Go.Proofs.Qxb6003698a.Word
open Go.RowKit Go.Proofs.Qxb6003698a.Base

theorem info5 : (Try.prog.info? 5).map (fun i => (i.zero, i.size, i.bytes)) = some (some (.int .u8 0), 1, 1) := by kernel_rfl

set_option maxRecDepth 1000000 in
set_option maxHeartbeats 800000 in
theorem word_room (B : Nat) (nv wv : Value) (nrm word : List Int) (d : Bool) (st ln : Int) (dg lt : Bool) (c : Int) (w : World) (h : ScanAt B nv wv nrm word d st ln dg lt w) (hr : nrm.length + word.length < 800) :
    Calls Try.prog 42 #[.pointer (some ⟨B, 0, none⟩), .int .u8 c] w fun e w' => e = .returned (.tuple #[]) ∧ ∃ wv', ScanAt B nv wv' nrm (word ++ [c]) d st ln dg lt w' ∧ Fr B nv wv w w' ∧ Fresh nv wv nv wv' w := by
  obtain ⟨i0, hi, hz0, hz1, hz2⟩ := info_parts info5
  have h1 : w.cell? ⟨B, 1, none⟩ = some nv := h.cell 1
  have h7 : w.cell? ⟨B, 7, none⟩ = some wv := h.cell 7
  have f7 : w.frozen? ⟨B, 7, none⟩ = false := h.free 7
  have hB := h.lt_size
  have H := hide h
  obtain ⟨a1, cap1, rfl⟩ := own_slice h.own1
  obtain ⟨a2, cap2, rfl⟩ := own_slice h.own2
  clear h
  go_enter Try.func42, Try.ntmps42
  go_wp2_with fail
  go_quiet (fail)
  have hbel : Below w.heap.size w ((w.drewN nq).alloc (.cells #[.int .u8 c] 5)) := (below_drewN (Below.refl _ _) nq).alloc (by simp) _
  go_wp2_with (at_builtin; refine wpList_append_lies _ rfl (.tmp 20) (.tmp 22) 25 rfl (B + 1) 5 i0 (.int .u8 0) 1 1 Try.underlying25 hi hz0 hz1 hz2 rfl (by decide) _ word.length (cellsB word) rfl ?own ⟨w.heap.size, 0, none⟩ 1 1 [.int .u8 c] rfl rfl ?news ?one (by decide) ?h63 ?hby ?base _ rfl ?_)
  case own => exact (H.out.below hbel).own2
  case news => exact cell_one_new _ _ _
  case one => intro u hu; simp at hu; subst hu; rfl
  case h63 => unfold maxLen; omega
  case hby => omega
  case base => simp; omega
  intro g cap w1 hown hgrow hat hlt
  have R := hide (push_word H.out hbel hown hgrow hat (by simp))
  have e7 := (H.out.grow_cell hbel hgrow (.inl rfl) 7).1
  have f7' := (H.out.grow_cell hbel hgrow (.inl rfl) 7).2
  simp only [scanCells] at e7
  clear hown hgrow hat H h7 h1 f7 hbel
  go_wp2
  go_end0
  exact ⟨rfl, _, R.out⟩

set_option maxRecDepth 1000000 in
set_option maxHeartbeats 800000 in
theorem word_full (B : Nat) (nv wv : Value) (nrm word : List Int) (d : Bool) (st ln : Int) (dg lt : Bool) (c : Int) (w : World) (h : ScanAt B nv wv nrm word d st ln dg lt w) (hr : ¬ nrm.length + word.length < 800) (hm : nrm.length ≤ 1000000) (hm' : word.length ≤ 1000000) :
    Calls Try.prog 42 #[.pointer (some ⟨B, 0, none⟩), .int .u8 c] w fun e w' => e = .returned (.tuple #[]) ∧ ScanAt B nv wv nrm word d st ln dg lt w' ∧ Below w.heap.size w w' := by
  have h1 : w.cell? ⟨B, 1, none⟩ = some nv := h.cell 1
  have h7 : w.cell? ⟨B, 7, none⟩ = some wv := h.cell 7
  have H := hide h
  obtain ⟨a1, cap1, rfl⟩ := own_slice h.own1
  obtain ⟨a2, cap2, rfl⟩ := own_slice h.own2
  clear h
  have hlt : decide ((nrm.length : Int) + (word.length : Int) < 800) = false := by simp; omega
  go_enter Try.func42, Try.ntmps42
  go_wp2_with fail
  go_quiet (fail)
  go_wp2
  go_end0
  have hb := below_drewN (Below.refl w.heap.size w) nq
  exact ⟨rfl, H.out.below hb, hb⟩

/-- addToWord, whatever room there is -/
theorem word_any (B : Nat) (nv wv : Value) (nrm word : List Int) (d : Bool) (st ln : Int) (dg lt : Bool) (c : Int) (w : World) (h : ScanAt B nv wv nrm word d st ln dg lt w) (hm : nrm.length ≤ 1000000) (hm' : word.length ≤ 1000000) :
    Calls Try.prog 42 #[.pointer (some ⟨B, 0, none⟩), .int .u8 c] w fun e w' => e = .returned (.tuple #[]) ∧ ∃ wv', ScanAt B nv wv' nrm (wordIn nrm word c) d st ln dg lt w' ∧ Fr B nv wv w w' ∧ Fresh nv wv nv wv' w := by
  by_cases hr : nrm.length + word.length < 800
  · have e : wordIn nrm word c = word ++ [c] := if_pos hr
    rw [e]
    exact word_room B nv wv nrm word d st ln dg lt c w h hr
  · have e : wordIn nrm word c = word := if_neg hr
    rw [e]
    exact (word_full B nv wv nrm word d st ln dg lt c w h hr hm hm').mono fun e w' ⟨he, hs, hb⟩ => ⟨he, wv, hs, Fr.of_below hb, Fresh.refl _ _ _⟩

set_option maxHeartbeats 400000 in
theorem zword_any (B : Nat) (nv wv : Value) (nrm word : List Int) (d : Bool) (st ln : Int) (dg lt : Bool) (c : Int) (w : World) (h : ScanAt B nv wv nrm word d st ln dg lt w) (hm : nrm.length ≤ 1000000) (hm' : word.length ≤ 1000000) :
    Calls Try.prog 32 #[.pointer (some ⟨B, 0, none⟩), .int .u8 c] w fun e w' => e = .returned (.tuple #[]) ∧ ∃ wv', ScanAt B nv wv' nrm (wordIn nrm word c) d st ln dg lt w' ∧ Fr B nv wv w w' ∧ Fresh nv wv nv wv' w := by
  have H := hide h
  clear h
  go_enter Try.func32, Try.ntmps32
  go_wp2_with (go_at_call 42; refine (word_any _ _ _ _ _ _ _ _ _ _ _ _ H.out hm hm').mono ?_; rintro e w' ⟨rfl, hq⟩)
  go_end0
  exact ⟨rfl, hq⟩

set_option maxHeartbeats 400000 in
theorem zword_room (B : Nat) (nv wv : Value) (nrm word : List Int) (d : Bool) (st ln : Int) (dg lt : Bool) (c : Int) (w : World) (h : ScanAt B nv wv nrm word d st ln dg lt w) (hr : nrm.length + word.length < 800) :
    Calls Try.prog 17 #[.pointer (some ⟨B, 0, none⟩), .int .u8 c] w fun e w' => e = .returned (.tuple #[]) ∧ ∃ wv', ScanAt B nv wv' nrm (word ++ [c]) d st ln dg lt w' ∧ Fr B nv wv w w' ∧ Fresh nv wv nv wv' w := by
  have H := hide h
  clear h
  go_enter Try.func17, Try.ntmps17
  go_wp2_with (go_at_call 42; refine (word_room _ _ _ _ _ _ _ _ _ _ _ _ H.out hr).mono ?_; rintro e w' ⟨rfl, hq⟩)
  go_end0
  exact ⟨rfl, hq⟩

end Go.Proofs.Qxb6003698a.Word
