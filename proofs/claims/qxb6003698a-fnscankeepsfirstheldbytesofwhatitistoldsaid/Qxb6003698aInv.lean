/-
  What holds at every round of FnScanKeepsFirstHeldBytesOfWhatItIsTold, and what each call in the round does to it.
-/
import Derived.Test.Qxb6003698aEnd
import Derived.Test.Qxb6003698aSame
namespace Go.Proofs.Qxb6003698a.Inv
open Go.RowKit Go.Proofs.Qxb6003698a.Base Go.Proofs.Qxb6003698a.Word Go.Proofs.Qxb6003698a.Run Go.Proofs.Qxb6003698a.End Go.Proofs.Qxb6003698a.Same
open Go.Proofs.Qxb6003698a.Clone (Src clone_any)

/-! ### the plain law: no Go in sight -/
theorem step_word (nrm word told : List Int) (c : Int) (h : nrm ++ word = told.take 800) : nrm ++ wordIn nrm word c = (told ++ [c]).take 800 := by
  have hl := congrArg List.length h
  simp at hl
  unfold wordIn
  by_cases hr : nrm.length + word.length < 800
  · rw [if_pos hr, ← List.append_assoc, h]
    have : told.length < 800 := by omega
    rw [List.take_of_length_le (by omega), List.take_of_length_le (by simp; omega)]
  · rw [if_neg hr, h, List.take_append_of_le_length (by omega)]
theorem step_add (nrm told : List Int) (c : Int) (h : nrm = told.take 800) : normIn nrm c ++ [] = (told ++ [c]).take 800 := by
  have hl := congrArg List.length h
  simp at hl
  unfold normIn
  rw [List.append_nil]
  by_cases hr : nrm.length < 800
  · rw [if_pos hr, h]
    have : told.length < 800 := by omega
    rw [List.take_of_length_le (by omega), List.take_of_length_le (by simp; omega)]
  · rw [if_neg hr, h, List.take_append_of_le_length (by omega)]

/-! ### the state -/
structure Inv (B : Nat) (W0 : World) (tv : Value) (told nrm word : List Int) (wr : World) : Prop where
  st : ∃ nv wv, ScanAt B nv wv nrm word false 0 0 false false wr ∧ (∀ k, tv.ownBlock = some k → k ≠ B ∧ nv.ownBlock ≠ some k ∧ wv.ownBlock ≠ some k)
  own : wr.ownsRow (B + 1) 5 1 tv told.length (cellsB told)
  bel : Below B W0 wr

theorem Fr.below {B : Nat} {nv wv : Value} {nrm word : List Int} {d : Bool} {st ln : Int} {dg lt : Bool} {w w' : World} (h : ScanAt B nv wv nrm word d st ln dg lt w) (hF : Fr B nv wv w w') : Below B w w' :=
  ⟨hF.os, hF.tape, hF.output, hF.size, fun k hk => hF.block k (Nat.lt_trans hk h.lt_size) (by omega)
    (fun e => by have := own_ge h.own1 e.symm; omega) (fun e => by have := own_ge h.own2 e.symm; omega)⟩

section
variable {B : Nat} {W0 : World} {tv : Value} {told nrm word : List Int} {wr : World}

theorem Inv.next (h : Inv B W0 tv told nrm word wr) {nrm' word' : List Int} {w' : World}
    (k : ∀ nv wv, ScanAt B nv wv nrm word false 0 0 false false wr → ∃ nv' wv', ScanAt B nv' wv' nrm' word' false 0 0 false false w' ∧ Fr B nv wv wr w' ∧ Fresh nv wv nv' wv' wr) : Inv B W0 tv told nrm' word' w' := by
  obtain ⟨⟨nv, wv, hS, hap⟩, hown, hbel⟩ := h
  obtain ⟨nv', wv', hS', hF, hfr⟩ := k nv wv hS
  refine ⟨⟨nv', wv', hS', ?_⟩, ?_, hbel.trans (Fr.below hS hF)⟩
  · intro k hk
    obtain ⟨h1, h2, h3⟩ := hap k hk
    have hlt := own_lt hown hk
    refine ⟨h1, fun e => ?_, fun e => ?_⟩
    · rcases hfr k (.inl e) with (e | e) | e
      · exact h2 e
      · exact h3 e
      · omega
    · rcases hfr k (.inr e) with (e | e) | e
      · exact h2 e
      · exact h3 e
      · omega
  · refine own_kept hown fun k hk => ?_
    obtain ⟨h1, h2, h3⟩ := hap k hk
    exact hF.block k (own_lt hown hk) h1 (fun e => h2 e.symm) (fun e => h3 e.symm)

theorem Inv.below (h : Inv B W0 tv told nrm word wr) {w' : World} (hb : Below wr.heap.size wr w') : Inv B W0 tv told nrm word w' :=
  h.next fun nv wv hS => ⟨nv, wv, hS.below hb, Fr.of_below hb, Fresh.refl _ _ _⟩

theorem Inv.lt_size (h : Inv B W0 tv told nrm word wr) : B < wr.heap.size := by
  obtain ⟨⟨nv, wv, hS, _⟩, _, _⟩ := h
  exact hS.lt_size

theorem Inv.mk_next {nv wv nv' wv' : Value} {nrm' word' : List Int} {w' : World} (hS : ScanAt B nv wv nrm word false 0 0 false false wr) (hap : ∀ k, tv.ownBlock = some k → k ≠ B ∧ nv.ownBlock ≠ some k ∧ wv.ownBlock ≠ some k)
    (hown : wr.ownsRow (B + 1) 5 1 tv told.length (cellsB told)) (hbel : Below B W0 wr) (hS' : ScanAt B nv' wv' nrm' word' false 0 0 false false w') (hF : Fr B nv wv wr w') (hfr : Fresh nv wv nv' wv' wr) : Inv B W0 tv told nrm' word' w' :=
  Inv.next ⟨⟨nv, wv, hS, hap⟩, hown, hbel⟩ fun nv2 wv2 hS2 => by
    have e1 : nv2 = nv ∧ wv2 = wv := by
      have := hS2.blk.symm.trans hS.blk
      simp [scanCells] at this
      exact this
    obtain ⟨rfl, rfl⟩ := e1
    exact ⟨_, _, hS', hF, hfr⟩

theorem inv_word (c : Int) (h : Inv B W0 tv told nrm word wr) (hm : nrm.length + word.length ≤ 800) :
    Calls Try.prog 32 #[.pointer (some ⟨B, 0, none⟩), .int .u8 c] wr fun e w' => e = .returned (.tuple #[]) ∧ Inv B W0 tv told nrm (wordIn nrm word c) w' := by
  obtain ⟨⟨nv, wv, hS, hap⟩, hown, hbel⟩ := h
  exact (zword_any B nv wv nrm word false 0 0 false false c wr hS (by omega) (by omega)).mono fun e w' ⟨he, wv', hS', hF, hfr⟩ =>
    ⟨he, Inv.mk_next hS hap hown hbel hS' hF hfr⟩

theorem inv_end (h : Inv B W0 tv told nrm word wr) (hm : nrm.length + word.length ≤ 800) :
    Calls Try.prog 33 #[.pointer (some ⟨B, 0, none⟩)] wr fun e w' => e = .returned (.tuple #[]) ∧ Inv B W0 tv told (nrm ++ word) [] w' := by
  obtain ⟨⟨nv, wv, hS, hap⟩, hown, hbel⟩ := h
  exact (zend_any B nv wv nrm word wr hS (by omega)).mono fun e w' ⟨he, nv', wv', hS', hF, hfr⟩ =>
    ⟨he, Inv.mk_next hS hap hown hbel hS' hF hfr⟩

theorem inv_add (c : Int) (h : Inv B W0 tv told nrm word wr) :
    Calls Try.prog 34 #[.pointer (some ⟨B, 0, none⟩), .int .u8 c] wr fun e w' => e = .returned (.tuple #[]) ∧ Inv B W0 tv told (normIn nrm c) word w' := by
  obtain ⟨⟨nv, wv, hS, hap⟩, hown, hbel⟩ := h
  exact (zadd_any B nv wv nrm word false 0 0 false false c wr hS).mono fun e w' ⟨he, nv', hS', hF, hfr⟩ =>
    ⟨he, Inv.mk_next hS hap hown hbel hS' hF hfr⟩

/-- what a slice that is owned leads to -/
theorem own_src {w : World} {base : Nat} {a : Option Addr} {n cap : Nat} {zs : List Int} (h : w.ownsRow base 5 1 (.slice a n cap) zs.length (cellsB zs)) : (a = none → zs = [] ∧ cap = 0) ∧ Src w a zs ∧ n = zs.length ∧ (a = none ∨ ∃ g, a = some ⟨g, 0, none⟩) ∧ n ≤ cap := by
  rcases h.2 with ⟨e, hn⟩ | ⟨g, cap', cur, e, hb, hg, hc, _⟩
  · simp at e
    obtain ⟨rfl, rfl, rfl⟩ := e
    exact ⟨fun _ => ⟨List.eq_nil_of_length_eq_zero hn, rfl⟩, .inl (List.eq_nil_of_length_eq_zero hn), hn.symm, .inl rfl, Nat.le_refl _⟩
  · simp at e
    obtain ⟨rfl, rfl, rfl⟩ := e
    refine ⟨fun k => by simp at k, .inr ⟨g, 0, rfl, (Array.getElem?_eq_some_iff.1 hg).1, fun i hi => ?_⟩, rfl, .inr ⟨g, rfl⟩, hc⟩
    rw [Nat.zero_add, h.cellAt i (by omega)]
    simp [cellsB, List.getD, hi]

theorem inv_getn (h : Inv B W0 tv told nrm word wr) :
    Calls Try.prog 35 #[.pointer (some ⟨B, 0, none⟩)] wr fun e w' => (∃ a cap, e = .returned (.slice a nrm.length cap) ∧ (a = none → nrm = [] ∧ cap = 0) ∧ Src wr a nrm) ∧ w' = wr := by
  obtain ⟨⟨nv, wv, hS, hap⟩, hown, hbel⟩ := h
  obtain ⟨a, cap, rfl⟩ := own_slice hS.own1
  have hs := own_src hS.own1
  exact (getn B _ _ nrm word false 0 0 false false wr hS).mono fun e w' ⟨he, hw⟩ => ⟨⟨a, cap, he, hs.1, hs.2.1⟩, hw⟩

theorem inv_getw (h : Inv B W0 tv told nrm word wr) :
    Calls Try.prog 36 #[.pointer (some ⟨B, 0, none⟩)] wr fun e w' => (∃ a cap, e = .returned (.slice a word.length cap) ∧ Src wr a word) ∧ w' = wr := by
  obtain ⟨⟨nv, wv, hS, hap⟩, hown, hbel⟩ := h
  obtain ⟨a, cap, rfl⟩ := own_slice hS.own2
  have hs := own_src hS.own2
  exact (getw B _ _ nrm word false 0 0 false false wr hS).mono fun e w' ⟨he, hw⟩ => ⟨⟨a, cap, he, hs.2.1⟩, hw⟩

/-- told = append(told, c) -/
theorem inv_told (c : Int) {wa w1 : World} {g cap H : Nat} (h : Inv B W0 tv told nrm word wr) (hb : Below wr.heap.size wr wa)
    (hown : w1.ownsRow (B + 1) 5 1 (.slice (some ⟨g, 0, none⟩) (told.length + 1) cap) (told.length + 1) (cellsB told ++ [.int .u8 c])) (hgrow : wa.grownBy w1 tv.ownBlock) (hat : tv.ownBlock = some g ∨ g = H) (hH : wa.heap.size = H) :
    Inv B W0 (.slice (some ⟨g, 0, none⟩) (told.length + 1) cap) (told ++ [c]) nrm word w1 := by
  obtain ⟨⟨nv, wv, hS, hap⟩, hown0, hbel⟩ := h
  have hsz := hb.size
  have hSa := hS.below hb
  have kept : ∀ k, k < wr.heap.size → tv.ownBlock ≠ some k → w1.heap[k]? = wa.heap[k]? := fun k hk hne => hgrow.block k (by omega) (fun e => hne e.symm)
  have hBlt := hS.lt_size
  refine ⟨⟨nv, wv, ⟨?_, ?_, ?_, hS.apart⟩, ?_⟩, ?_, ?_⟩
  · exact (kept B hBlt (fun e => (hap B e).1 rfl)).trans hSa.blk
  · exact own_kept hSa.own1 fun k hk => kept k (own_lt hS.own1 hk) (fun e => (hap k e).2.1 hk)
  · exact own_kept hSa.own2 fun k hk => kept k (own_lt hS.own2 hk) (fun e => (hap k e).2.2 hk)
  · intro k hk
    have hk' : g = k := by simpa [Value.ownBlock] using hk
    subst hk'
    rcases hat with e | e
    · exact hap g e
    · refine ⟨by omega, fun k => ?_, fun k => ?_⟩
      · have := own_lt hS.own1 k; omega
      · have := own_lt hS.own2 k; omega
  · rw [List.length_append, cellsB_append]; exact hown
  · refine hbel.trans ⟨hgrow.os.trans hb.os, hgrow.tape.trans hb.tape, hgrow.output.trans hb.output, by have := hgrow.size; omega, fun k hk => ?_⟩
    refine (hgrow.block k (by omega) (fun e => ?_)).trans (hb.block k (by omega))
    have := own_ge hown0 e.symm; omega

/-- an append to a row that is younger than wr -/
theorem inv_held {wa w1 : World} {row : Option Nat} (hb : Below wr.heap.size wr wa) (hgrow : wa.grownBy w1 row) (hrow : ∀ k, row = some k → wr.heap.size ≤ k) : Below wr.heap.size wr w1 :=
  hb.grown hgrow hb.size hrow

end
set_option maxHeartbeats 400000 in
theorem min_is (n : Nat) (zs : List Int) (h : zs.length = min n 800) (w : World) : Calls Try.prog 37 #[.int .i64 n, .int .i64 800] w fun e w' => e = .returned (.int .i64 (zs.length : Int)) ∧ w' = w :=
  (min_any n 800 w).mono fun e w' ⟨he, hw⟩ => ⟨he.trans (ret_int (by omega)), hw⟩

theorem src_take {w : World} {a : Option Addr} {zs : List Int} (h : Src w a zs) (n : Nat) : Src w a (zs.take n) := by
  rcases h with h | ⟨b, off, e, hlt, hc⟩
  · subst h; exact .inl (by simp)
  · refine .inr ⟨b, off, e, hlt, fun i hi => ?_⟩
    have hi2 : i < min n zs.length := by simpa using hi
    have hi1 : i < n := by omega
    rw [hc i (by omega)]
    simp [List.getD, List.getElem?_take_of_lt hi1]

theorem src_append {w : World} {a : Option Addr} {zs : List Int} (h : Src w a zs) : zs.length = 0 ∨ ∃ ad, a = some ad ∧ ∀ j u, (cellsB zs)[j]? = some u → w.cell? (ad.add j) = some u := by
  rcases h with h | ⟨b, off, e, hlt, hc⟩
  · subst h; exact .inl rfl
  · refine .inr ⟨_, e, fun j u hu => ?_⟩
    have hj : j < zs.length := by simpa using (List.getElem?_eq_some_iff.1 hu).1
    have e1 : (⟨b, off, none⟩ : Addr).add j = ⟨b, off + j, none⟩ := by unfold Addr.add; split <;> simp_all
    rw [e1, hc j hj, ← hu]
    simp [cellsB, List.getD, hj]

theorem min_len (n : Nat) (w : World) : Calls Try.prog 37 #[.int .i64 n, .int .i64 800] w fun e w' => e = .returned (.int .i64 ((min n 800 : Nat) : Int)) ∧ w' = w :=
  (min_any n 800 w).mono fun e w' ⟨he, hw⟩ => ⟨he.trans (ret_int (by omega)), hw⟩

end Go.Proofs.Qxb6003698a.Inv
