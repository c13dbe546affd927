/-
  The walks of endRun (44).
-/
import Derived.Test.Qxb6003698aWord
import Derived.Deep.RegionLaw
namespace Go.Proofs.Qxb6003698a.Run
open Go.RowKit Go.Proofs.Qxb6003698a.Base Go.Proofs.Qxb6003698a.Word

set_option maxRecDepth 1000000 in
set_option maxHeartbeats 800000 in
theorem run_plain (B : Nat) (nv wv : Value) (nrm word : List Int) (d : Bool) (st ln : Int) (dg lt : Bool) (w : World) (h : ScanAt B nv wv nrm word d st ln dg lt w) (hc : ¬ (ln = 8 ∧ dg = true ∧ lt = true)) :
    Calls Try.prog 44 #[.pointer (some ⟨B, 0, none⟩)] w fun e w' => e = .returned (.tuple #[]) ∧ ScanAt B nv wv nrm word false 0 0 false false w' ∧ Fr B nv wv w w' := by
  have h8 : w.cell? ⟨B, 8, none⟩ = some (.bool d) := h.cell 8
  have h9 : w.cell? ⟨B, 9, none⟩ = some (.int .i64 st) := h.cell 9
  have h10 : w.cell? ⟨B, 10, none⟩ = some (.int .i64 ln) := h.cell 10
  have h11 : w.cell? ⟨B, 11, none⟩ = some (.bool dg) := h.cell 11
  have h12 : w.cell? ⟨B, 12, none⟩ = some (.bool lt) := h.cell 12
  have f8 := h.free 8
  have f9 := h.free 9
  have f10 := h.free 10
  have f11 := h.free 11
  have f12 := h.free 12
  have H := hide h
  have hP : (ln == 8) = false ∨ ((ln == 8) = true ∧ dg = false) ∨ ((ln == 8) = true ∧ dg = true ∧ lt = false) := by
    cases hb : (ln == 8) with
    | false => exact .inl rfl
    | true =>
      have e : ln = 8 := by simpa using hb
      cases dg <;> cases lt <;> simp_all
  clear h hc
  rcases hP with hx | ⟨hx, rfl⟩ | ⟨hx, rfl, rfl⟩
  all_goals
    go_enter Try.func44, Try.ntmps44
    go_wp2
    go_end0
    exact ⟨rfl, ((((H.out.set9 0).set10 0).set11 false).set12 false).set8 false, (((((Fr.refl _ _ _ _).set _ _).set _ _).set _ _).set _ _).set _ _⟩

set_option maxRecDepth 1000000 in
set_option maxHeartbeats 800000 in
theorem run_id (B : Nat) (nv : Value) (g cap : Nat) (nrm word : List Int) (d : Bool) (st : Nat) (w : World) (h : ScanAt B nv (.slice (some ⟨g, 0, none⟩) word.length cap) nrm word d st 8 true true w) (hst : st ≤ word.length) (hcap : word.length ≤ cap) (hr : nrm.length + st < 800) :
    Calls Try.prog 44 #[.pointer (some ⟨B, 0, none⟩)] w fun e w' => e = .returned (.tuple #[]) ∧ ∃ wv', ScanAt B nv wv' nrm (word.take st ++ [88]) false 0 0 false false w' ∧ Fr B nv (.slice (some ⟨g, 0, none⟩) word.length cap) w w' ∧ Fresh nv (.slice (some ⟨g, 0, none⟩) word.length cap) nv wv' w := by
  have h7 : w.cell? ⟨B, 7, none⟩ = some (.slice (some ⟨g, 0, none⟩) word.length cap) := h.cell 7
  have h9 : w.cell? ⟨B, 9, none⟩ = some (.int .i64 st) := h.cell 9
  have h10 : w.cell? ⟨B, 10, none⟩ = some (.int .i64 8) := h.cell 10
  have h11 : w.cell? ⟨B, 11, none⟩ = some (.bool true) := h.cell 11
  have h12 : w.cell? ⟨B, 12, none⟩ = some (.bool true) := h.cell 12
  have f7 := h.free 7
  have H := hide h
  clear h
  have b1 : (0 : Int) ≤ (st : Int) := by omega
  have b2 : (st : Int) ≤ (cap : Int) := by omega
  go_enter Try.func44, Try.ntmps44
  go_wp2
  go_region
  have C := hide ((H.out.cut7 st hst).drew)
  have F1 := hide (((Fr.refl B nv (.slice (some ⟨g, 0, none⟩) word.length cap) w).set 7 (.slice (some ⟨g, 0, none⟩) st cap)).drew)
  have hl : nrm.length + (word.take st).length < 800 := by simp; omega
  clear h7 h9 h10 h11 h12 f7 H
  go_wp2_with fail
  refine (word_room _ _ _ _ _ _ _ _ _ _ _ _ C.out hl).mono ?_
  rintro e w2 ⟨rfl, wv', hS, hF, hfr⟩
  have h8 : w2.cell? ⟨B, 8, none⟩ = some (.bool d) := hS.cell 8
  have h9 : w2.cell? ⟨B, 9, none⟩ = some (.int .i64 st) := hS.cell 9
  have h10 : w2.cell? ⟨B, 10, none⟩ = some (.int .i64 8) := hS.cell 10
  have h11 : w2.cell? ⟨B, 11, none⟩ = some (.bool true) := hS.cell 11
  have h12 : w2.cell? ⟨B, 12, none⟩ = some (.bool true) := hS.cell 12
  have f8 := hS.free 8
  have f9 := hS.free 9
  have f10 := hS.free 10
  have f11 := hS.free 11
  have f12 := hS.free 12
  have hfr' : Fresh nv (.slice (some ⟨g, 0, none⟩) word.length cap) nv wv' w := fun k hk => by
    rcases hfr k hk with e | e
    · exact .inl e
    · right; simpa using e
  have F2 : Fr B nv (.slice (some ⟨g, 0, none⟩) word.length cap) w w2 := Fr.trans F1.out (Fresh.refl _ _ _) ⟨hF.os, hF.tape, hF.output, hF.size, hF.block⟩
  have K1 := hide hS
  have K2 := hide F2
  have K3 := hide hfr'
  clear hS hF hfr F2 hfr' F1 C
  go_wp2
  go_end0
  exact ⟨rfl, wv', ((((K1.out.set9 0).set10 0).set11 false).set12 false).set8 false, ((((K2.out.set _ _).set _ _).set _ _).set _ _).set _ _, K3.out⟩

set_option maxHeartbeats 400000 in
theorem zrun_plain (B : Nat) (nv wv : Value) (nrm word : List Int) (d : Bool) (st ln : Int) (dg lt : Bool) (w : World) (h : ScanAt B nv wv nrm word d st ln dg lt w) (hc : ¬ (ln = 8 ∧ dg = true ∧ lt = true)) :
    Calls Try.prog 19 #[.pointer (some ⟨B, 0, none⟩)] w fun e w' => e = .returned (.tuple #[]) ∧ ScanAt B nv wv nrm word false 0 0 false false w' ∧ Fr B nv wv w w' := by
  have H := hide h
  have HC := hide hc
  clear h hc
  go_enter Try.func19, Try.ntmps19
  go_wp2_with (go_at_call 44; refine (run_plain _ _ _ _ _ _ _ _ _ _ _ H.out HC.out).mono ?_; rintro e w' ⟨rfl, hq⟩)
  go_end0
  exact ⟨rfl, hq⟩

set_option maxHeartbeats 400000 in
theorem zrun_id (B : Nat) (nv : Value) (g cap : Nat) (nrm word : List Int) (d : Bool) (st : Nat) (w : World) (h : ScanAt B nv (.slice (some ⟨g, 0, none⟩) word.length cap) nrm word d st 8 true true w) (hst : st ≤ word.length) (hcap : word.length ≤ cap) (hr : nrm.length + st < 800) :
    Calls Try.prog 19 #[.pointer (some ⟨B, 0, none⟩)] w fun e w' => e = .returned (.tuple #[]) ∧ ∃ wv', ScanAt B nv wv' nrm (word.take st ++ [88]) false 0 0 false false w' ∧ Fr B nv (.slice (some ⟨g, 0, none⟩) word.length cap) w w' ∧ Fresh nv (.slice (some ⟨g, 0, none⟩) word.length cap) nv wv' w := by
  have H := hide h
  clear h
  go_enter Try.func19, Try.ntmps19
  go_wp2_with (go_at_call 44; refine (run_id _ _ _ _ _ _ _ _ _ H.out hst hcap hr).mono ?_; rintro e w' ⟨rfl, hq⟩)
  go_end0
  exact ⟨rfl, hq⟩

end Go.Proofs.Qxb6003698a.Run
