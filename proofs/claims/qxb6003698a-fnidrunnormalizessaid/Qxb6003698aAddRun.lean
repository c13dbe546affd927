/-
  The walk of addToRun (43) and its shim (18).
-/
import Derived.Test.Qxb6003698aRun
import Derived.Test.Qxb6003698aBytes
import Derived.Deep.DeepCutAuto
namespace Go.Proofs.Qxb6003698a.AddRun
open Go.RowKit Go.Proofs.Qxb6003698a.Base Go.Proofs.Qxb6003698a.Word Go.Proofs.Qxb6003698a.Run Go.Proofs.Qxb6003698a.Bytes

/-- word behind addToRun(c) -/
def runIn (word : List Int) (d : Bool) (c : Int) : List Int := if digB c = false then word ++ [c] else if d = false then word ++ [78] else word
/-- where the run starts -/
def startIn (word : List Int) (st ln : Int) : Int := if ln = 0 then word.length else st
def lenIn (ln : Int) : Int := min (ln + 1) 8

set_option maxRecDepth 1000000 in
set_option maxHeartbeats 1000000 in
theorem run_add (B : Nat) (nv wv : Value) (nrm word : List Int) (d : Bool) (st ln : Int) (dg lt : Bool) (c : Int) (w : World) (h : ScanAt B nv wv nrm word d st ln dg lt w) (hr : nrm.length + word.length < 800) (l0 : 0 ≤ ln) (l8 : ln ≤ 8) :
    Calls Try.prog 43 #[.pointer (some ⟨B, 0, none⟩), .int .u8 c] w fun e w' => e = .returned (.tuple #[]) ∧ ∃ wv', ScanAt B nv wv' nrm (runIn word d c) (digB c) (startIn word st ln) (lenIn ln) (dg || digB c) (lt || letB c) w' ∧ Fr B nv wv w w' ∧ Fresh nv wv nv wv' w := by
  have H := hide h
  have h10 : w.cell? ⟨B, 10, none⟩ = some (.int .i64 ln) := h.cell 10
  clear h
  go_enter Try.func43, Try.ntmps43
  go_upto_if 10 with fail
  go_cut [] (fun w1 => ScanAt B nv wv nrm word d (startIn word st ln) ln dg lt w1 ∧ Fr B nv wv w w1)
  case first =>
    have h7 : w.cell? ⟨B, 7, none⟩ = some wv := H.out.cell 7
    have h9 : w.cell? ⟨B, 9, none⟩ = some (.int .i64 st) := H.out.cell 9
    have f9 := H.out.free 9
    obtain ⟨a2, cap2, hwv⟩ := own_slice H.out.own2
    rw [hwv] at h7
    have HW := hide hwv
    clear hwv
    by_cases hl : ln = 0
    · have hb : (ln == 0) = true := by simpa using hl
      have e : Hid (startIn word st ln = word.length) := if_pos hl
      clear hl
      go_wp2
      go_meet
      case rel =>
        rw [e.out]
        exact ⟨H.out.set9 _, (Fr.refl _ _ _ _).set _ _⟩
    · have hb : (ln == 0) = false := by simpa using hl
      have e : Hid (startIn word st ln = st) := if_neg hl
      clear hl
      go_wp2
      go_meet
      case rel =>
        rw [e.out]
        exact ⟨H.out, Fr.refl _ _ _ _⟩
  case rest =>
    obtain ⟨hS, hF⟩ := hcut
    have S1 := hide hS
    have F1 := hide hF
    have h10 : wc.cell? ⟨B, 10, none⟩ = some (.int .i64 ln) := hS.cell 10
    have f10 := hS.free 10
    clear hS hF H
    go_upto_region 2 with fail
    go_cut [] (fun w1 => ScanAt B nv wv nrm word d (startIn word st ln) (lenIn ln) dg lt w1 ∧ Fr B nv wv w w1)
    case first =>
      by_cases hl : ln < 8
      · have e : Hid (lenIn ln = ln + 1) := by show min (ln + 1) 8 = ln + 1; omega
        go_wp2
        go_meet
        case rel =>
          rw [e.out]
          exact ⟨S1.out.set10 _, F1.out.set _ _⟩
      · have e : Hid (lenIn ln = 8) := by show min (ln + 1) 8 = 8; omega
        go_wp2
        go_meet
        case rel =>
          rw [e.out]
          exact ⟨S1.out.set10 _, F1.out.set _ _⟩
    case rest =>
      obtain ⟨hS, hF⟩ := hcut
      have S2 := hide hS
      have F2 := hide hF
      have h11 : wc.cell? ⟨B, 11, none⟩ = some (.bool dg) := hS.cell 11
      have f11 := hS.free 11
      clear hS hF S1 F1
      go_upto_region 4 with (go_at_call 49; refine (dig49 _ _).mono ?_; rintro e w' ⟨rfl, rfl⟩)
      go_cut [] (fun w1 => ScanAt B nv wv nrm word d (startIn word st ln) (lenIn ln) (dg || digB c) lt w1 ∧ Fr B nv wv w w1)
      case first =>
        cases dg with
        | true =>
          go_wp2
          go_meet
          case rel => exact ⟨S2.out.set11 true, F2.out.set _ _⟩
        | false =>
          go_wp2
          go_meet
          case rel => exact ⟨S2.out.set11 (digB c), F2.out.set _ _⟩
      case rest =>
        obtain ⟨hS, hF⟩ := hcut
        have S3 := hide hS
        have F3 := hide hF
        have h12 : wc.cell? ⟨B, 12, none⟩ = some (.bool lt) := hS.cell 12
        have f12 := hS.free 12
        clear hS hF S2 F2 h11 f11
        go_upto_region 5 with fail
        go_cut [] (fun w1 => ScanAt B nv wv nrm word d (startIn word st ln) (lenIn ln) (dg || digB c) (lt || letB c) w1 ∧ Fr B nv wv w w1)
        case first =>
          cases lt with
          | true =>
            go_wp2
            go_meet
            case rel => exact ⟨S3.out.set12 true, F3.out.set _ _⟩
          | false =>
            go_wp2_with (go_at_call 50; refine (let50 _ _).mono ?_; rintro e w' ⟨rfl, rfl⟩)
            go_meet
            case rel => exact ⟨S3.out.set12 (letB c), F3.out.set _ _⟩
        case rest =>
          obtain ⟨hS, hF⟩ := hcut
          have S4 := hide hS
          have F4 := hide hF
          have h8 : wc.cell? ⟨B, 8, none⟩ = some (.bool d) := hS.cell 8
          have f8 := hS.free 8
          clear hS hF S3 F3 h12 f12
          cases hd : digB c with
          | false =>
            have e : Hid (runIn word d c = word ++ [c]) := if_pos hd
            rw [hd] at S4
            go_wp2_with (go_at_call 42; refine (word_room _ _ _ _ _ _ _ _ _ _ _ _ S4.out hr).mono ?_; rintro e w2 ⟨rfl, wv', hS, hF, hfr⟩; have g8 : w2.cell? ⟨B, 8, none⟩ = some (.bool d) := hS.cell 8; have k8 := hS.free 8)
            go_end0
            refine ⟨rfl, wv', ?_, (F4.out.trans (Fresh.refl _ _ _) hF).set _ _, Fresh.trans F4.out.size (Fresh.refl _ _ _) hfr⟩
            rw [e.out, hd]
            exact hS.set8 false
          | true =>
            rw [hd] at S4
            cases d with
            | false =>
              have e : Hid (runIn word false c = word ++ [78]) := by
                show runIn word false c = _
                unfold runIn; rw [if_neg (by rw [hd]; simp), if_pos rfl]
              go_wp2_with (go_at_call 42; refine (word_room _ _ _ _ _ _ _ _ _ _ _ _ S4.out hr).mono ?_; rintro e w2 ⟨rfl, wv', hS, hF, hfr⟩; have g8 : w2.cell? ⟨B, 8, none⟩ = some (.bool false) := hS.cell 8; have k8 := hS.free 8)
              go_end0
              refine ⟨rfl, wv', ?_, (F4.out.trans (Fresh.refl _ _ _) hF).set _ _, Fresh.trans F4.out.size (Fresh.refl _ _ _) hfr⟩
              rw [e.out, hd]
              exact hS.set8 true
            | true =>
              have e : Hid (runIn word true c = word) := by
                show runIn word true c = _
                unfold runIn; rw [if_neg (by rw [hd]; simp), if_neg (by simp)]
              go_wp2_with fail
              go_end0
              refine ⟨rfl, wv, ?_, F4.out.set _ _, Fresh.refl _ _ _⟩
              rw [e.out, hd]
              exact S4.out.set8 true

set_option maxHeartbeats 400000 in
theorem zrun_add (B : Nat) (nv wv : Value) (nrm word : List Int) (d : Bool) (st ln : Int) (dg lt : Bool) (c : Int) (w : World) (h : ScanAt B nv wv nrm word d st ln dg lt w) (hr : nrm.length + word.length < 800) (l0 : 0 ≤ ln) (l8 : ln ≤ 8) :
    Calls Try.prog 18 #[.pointer (some ⟨B, 0, none⟩), .int .u8 c] w fun e w' => e = .returned (.tuple #[]) ∧ ∃ wv', ScanAt B nv wv' nrm (runIn word d c) (digB c) (startIn word st ln) (lenIn ln) (dg || digB c) (lt || letB c) w' ∧ Fr B nv wv w w' ∧ Fresh nv wv nv wv' w := by
  have H := hide h
  clear h
  go_enter Try.func18, Try.ntmps18
  go_wp2_with (go_at_call 43; refine (run_add _ _ _ _ _ _ _ _ _ _ _ _ H.out hr l0 l8).mono ?_; rintro e w' ⟨rfl, hq⟩)
  go_end0
  exact ⟨rfl, hq⟩

end Go.Proofs.Qxb6003698a.AddRun
