/-
  WHAT A WORLD HOLDS OF AN errorScan, and what each method's step does to it: laws on worlds alone, no walk.
-/
import Derived.WalkKit
import Derived.Deep.AppendLies
import Derived.OneCell
import Derived.WalkSmall
namespace Go.Proofs.Qxb6003698a.Base
open Go.RowKit

/-- bytes as cells -/
def cellsB (l : List Int) : List Value := l.map (Value.int .u8)
@[simp] theorem cellsB_length (l : List Int) : (cellsB l).length = l.length := by simp [cellsB]
theorem cellsB_append (a b : List Int) : cellsB (a ++ b) = cellsB a ++ cellsB b := by simp [cellsB]

theorem hide {p : Prop} (h : p) : Hid p := h

/-- the thirteen cells of an errorScan: normalized and word slices, 'digits', the run's four cells; the rest zero -/
def scanCells (nv wv : Value) (d : Bool) (st ln : Int) (dg lt : Bool) : Array Value :=
  #[.slice none 0 0, nv, .string ⟨#[]⟩, .int .i64 0, .int .i64 0, .int .u64 0, .slice none 0 0, wv, .bool d, .int .i64 st, .int .i64 ln, .bool dg, .bool lt]

/-- word behind addToWord(c) -/
def wordIn (nrm word : List Int) (c : Int) : List Int := if nrm.length + word.length < 800 then word ++ [c] else word

structure ScanAt (B : Nat) (nv wv : Value) (nrm word : List Int) (d : Bool) (st ln : Int) (dg lt : Bool) (w : World) : Prop where
  blk : w.heap[B]? = some (.cells (scanCells nv wv d st ln dg lt) 57 (0, 0))
  own1 : w.ownsRow (B + 1) 5 1 nv nrm.length (cellsB nrm)
  own2 : w.ownsRow (B + 1) 5 1 wv word.length (cellsB word)
  apart : nv.ownBlock = none ∨ nv.ownBlock ≠ wv.ownBlock

/-- w' is w but for the struct at B, the rows of nv and wv, and new blocks -/
structure Fr (B : Nat) (nv wv : Value) (w w' : World) : Prop where
  os : w'.os = w.os
  tape : w'.tape = w.tape
  output : w'.output = w.output
  size : w.heap.size ≤ w'.heap.size
  block : ∀ k, k < w.heap.size → k ≠ B → some k ≠ nv.ownBlock → some k ≠ wv.ownBlock → w'.heap[k]? = w.heap[k]?

/-- the new rows are the old ones, or new -/
def Fresh (nv wv nv' wv' : Value) (w : World) : Prop :=
  ∀ k, (nv'.ownBlock = some k ∨ wv'.ownBlock = some k) → (nv.ownBlock = some k ∨ wv.ownBlock = some k) ∨ w.heap.size ≤ k

theorem Fresh.refl (nv wv : Value) (w : World) : Fresh nv wv nv wv w := fun _ h => .inl h

theorem Fr.of_below {B : Nat} {nv wv : Value} {w w' : World} (h : Below w.heap.size w w') : Fr B nv wv w w' :=
  ⟨h.os, h.tape, h.output, h.size, fun k hk _ _ _ => h.block k hk⟩

theorem Fr.trans {B : Nat} {nv wv nv' wv' : Value} {a b c : World} (h : Fr B nv wv a b) (hf : Fresh nv wv nv' wv' a) (k : Fr B nv' wv' b c) : Fr B nv wv a c :=
  ⟨k.os.trans h.os, k.tape.trans h.tape, k.output.trans h.output, Nat.le_trans h.size k.size, fun j hj hB hn hw =>
    (k.block j (Nat.lt_of_lt_of_le hj h.size) hB
      (fun e => by rcases hf j (.inl e.symm) with (e | e) | e; exact hn e.symm; exact hw e.symm; omega)
      (fun e => by rcases hf j (.inr e.symm) with (e | e) | e; exact hn e.symm; exact hw e.symm; omega)).trans (h.block j hj hB hn hw)⟩

theorem Fresh.trans {nv wv nv' wv' nv2 wv2 : Value} {a b : World} (hs : a.heap.size ≤ b.heap.size) (h : Fresh nv wv nv' wv' a) (k : Fresh nv' wv' nv2 wv2 b) : Fresh nv wv nv2 wv2 a := fun j hj => by
  rcases k j hj with e | e
  · exact h j e
  · exact .inr (by omega)

theorem own_ne {w : World} {base B : Nat} {v : Value} {n : Nat} {xs : List Value} (h : w.ownsRow base 5 1 v n xs) {cs : Array Value} (hb : w.heap[B]? = some (.cells cs 57 (0, 0))) : v.ownBlock ≠ some B := by
  intro e
  rcases h.2 with ⟨rfl, _⟩ | ⟨g, cap, cur, rfl, _, hg, _⟩
  · simp [Value.ownBlock] at e
  · simp [Value.ownBlock] at e
    subst e
    rw [hb] at hg
    simp at hg

theorem own_kept {w w' : World} {base : Nat} {v : Value} {n : Nat} {xs : List Value} (h : w.ownsRow base 5 1 v n xs) (hk : ∀ k, v.ownBlock = some k → w'.heap[k]? = w.heap[k]?) : w'.ownsRow base 5 1 v n xs := by
  refine ⟨h.1, ?_⟩
  rcases h.2 with hn | ⟨g, cap, cur, rfl, hb, hgg, rest⟩
  · exact .inl hn
  · exact .inr ⟨g, cap, cur, rfl, hb, (hk g rfl).trans hgg, rest⟩

theorem own_lt {w : World} {base : Nat} {v : Value} {n : Nat} {xs : List Value} (h : w.ownsRow base 5 1 v n xs) {k : Nat} (hk : v.ownBlock = some k) : k < w.heap.size := (h.lt k hk).2
theorem own_ge {w : World} {base : Nat} {v : Value} {n : Nat} {xs : List Value} (h : w.ownsRow base 5 1 v n xs) {k : Nat} (hk : v.ownBlock = some k) : base ≤ k := (h.lt k hk).1

namespace ScanAt
variable {B : Nat} {nv wv : Value} {nrm word : List Int} {d : Bool} {st ln : Int} {dg lt : Bool} {w : World}

theorem lt_size (h : ScanAt B nv wv nrm word d st ln dg lt w) : B < w.heap.size := (Array.getElem?_eq_some_iff.1 h.blk).1

theorem cell (h : ScanAt B nv wv nrm word d st ln dg lt w) (j : Nat) : w.cell? ⟨B, j, none⟩ = (scanCells nv wv d st ln dg lt)[j]? := by
  simp [World.cell?, h.blk]
theorem free (h : ScanAt B nv wv nrm word d st ln dg lt w) (j : Nat) : w.frozen? ⟨B, j, none⟩ = false := by
  simp [World.frozen?, h.blk]

theorem drew (h : ScanAt B nv wv nrm word d st ln dg lt w) : ScanAt B nv wv nrm word d st ln dg lt w.drew := ⟨h.blk, h.own1, h.own2, h.apart⟩

theorem below (h : ScanAt B nv wv nrm word d st ln dg lt w) {w' : World} (hb : Below w.heap.size w w') : ScanAt B nv wv nrm word d st ln dg lt w' :=
  ⟨(hb.block B h.lt_size).trans h.blk, own_kept h.own1 fun k hk => hb.block k (own_lt h.own1 hk), own_kept h.own2 fun k hk => hb.block k (own_lt h.own2 hk), h.apart⟩

theorem grow_blk (h : ScanAt B nv wv nrm word d st ln dg lt w) {wa w1 : World} {row : Option Nat} (hb : Below w.heap.size w wa) (hgrow : wa.grownBy w1 row) (hrow : row = wv.ownBlock ∨ row = nv.ownBlock) :
    w1.heap[B]? = some (.cells (scanCells nv wv d st ln dg lt) 57 (0, 0)) := by
  have ha := h.below hb
  refine (hgrow.block B ha.lt_size ?_).trans ha.blk
  rcases hrow with rfl | rfl
  · exact fun e => own_ne ha.own2 ha.blk e.symm
  · exact fun e => own_ne ha.own1 ha.blk e.symm

theorem grow_cell (h : ScanAt B nv wv nrm word d st ln dg lt w) {wa w1 : World} {row : Option Nat} (hb : Below w.heap.size w wa) (hgrow : wa.grownBy w1 row) (hrow : row = wv.ownBlock ∨ row = nv.ownBlock) (j : Nat) :
    w1.cell? ⟨B, j, none⟩ = (scanCells nv wv d st ln dg lt)[j]? ∧ w1.frozen? ⟨B, j, none⟩ = false := by
  have := h.grow_blk hb hgrow hrow
  exact ⟨by simp [World.cell?, this], by simp [World.frozen?, this]⟩

/-- a store into a plain field of the struct -/
theorem set_any (h : ScanAt B nv wv nrm word d st ln dg lt w) (j : Nat) (v : Value) {d' : Bool} {st' ln' : Int} {dg' lt' : Bool} (hv : (scanCells nv wv d st ln dg lt).setIfInBounds j v = scanCells nv wv d' st' ln' dg' lt') :
    ScanAt B nv wv nrm word d' st' ln' dg' lt' (w.setCell ⟨B, j, none⟩ v) :=
  ⟨by rw [heap_setCell_same w B j _ 57 v h.blk, hv], ownsRow_setCell_other h.own1 (own_ne h.own1 h.blk) _, ownsRow_setCell_other h.own2 (own_ne h.own2 h.blk) _, h.apart⟩
theorem set8 (h : ScanAt B nv wv nrm word d st ln dg lt w) (d' : Bool) : ScanAt B nv wv nrm word d' st ln dg lt (w.setCell ⟨B, 8, none⟩ (.bool d')) := h.set_any 8 _ rfl
theorem set9 (h : ScanAt B nv wv nrm word d st ln dg lt w) (n : Int) : ScanAt B nv wv nrm word d n ln dg lt (w.setCell ⟨B, 9, none⟩ (.int .i64 n)) := h.set_any 9 _ rfl
theorem set10 (h : ScanAt B nv wv nrm word d st ln dg lt w) (n : Int) : ScanAt B nv wv nrm word d st n dg lt (w.setCell ⟨B, 10, none⟩ (.int .i64 n)) := h.set_any 10 _ rfl
theorem set11 (h : ScanAt B nv wv nrm word d st ln dg lt w) (b : Bool) : ScanAt B nv wv nrm word d st ln b lt (w.setCell ⟨B, 11, none⟩ (.bool b)) := h.set_any 11 _ rfl
theorem set12 (h : ScanAt B nv wv nrm word d st ln dg lt w) (b : Bool) : ScanAt B nv wv nrm word d st ln dg b (w.setCell ⟨B, 12, none⟩ (.bool b)) := h.set_any 12 _ rfl

/-- word cut short: word = word[:k] -/
theorem cut7 {g n cap : Nat} (h : ScanAt B nv (.slice (some ⟨g, 0, none⟩) n cap) nrm word d st ln dg lt w) (k : Nat) (hk : k ≤ word.length) :
    ScanAt B nv (.slice (some ⟨g, 0, none⟩) k cap) nrm (word.take k) d st ln dg lt (w.setCell ⟨B, 7, none⟩ (.slice (some ⟨g, 0, none⟩) k cap)) := by
  have h2 : w.ownsRow (B + 1) 5 1 (.slice (some ⟨g, 0, none⟩) k cap) (word.take k).length (cellsB (word.take k)) := by
    refine ⟨by simp, ?_⟩
    rcases h.own2.2 with ⟨e, _⟩ | ⟨g', cap', cur, e, hb, hg, hn, hm, hs, ht⟩
    · simp at e
    · simp at e
      obtain ⟨rfl, rfl, rfl⟩ := e
      refine .inr ⟨g, cap, cur, by simp; omega, hb, hg, by simp; omega, hm, hs, ?_⟩
      have e1 : (word.take k).length = k := by simp; omega
      rw [e1, Nat.mul_one]
      rw [Nat.mul_one] at ht
      have e2 : cur.toList.take k = (cur.toList.take word.length).take k := by rw [List.take_take, Nat.min_eq_left hk]
      rw [e2, ht]
      simp [cellsB, List.map_take]
  refine ⟨?_, ?_, ?_, ?_⟩
  · rw [heap_setCell_same w B 7 _ 57 _ h.blk]; rfl
  · exact ownsRow_setCell_other h.own1 (own_ne h.own1 h.blk) _
  · exact ownsRow_setCell_other h2 (own_ne h2 h.blk) _
  · exact h.apart

end ScanAt

theorem Fr.refl (B : Nat) (nv wv : Value) (w : World) : Fr B nv wv w w := ⟨rfl, rfl, rfl, Nat.le_refl _, fun _ _ _ _ _ => rfl⟩
theorem Fr.set {B : Nat} {nv wv : Value} {a w : World} (h : Fr B nv wv a w) (j : Nat) (v : Value) : Fr B nv wv a (w.setCell ⟨B, j, none⟩ v) :=
  ⟨h.os, h.tape, h.output, by simpa using h.size, fun k hk hB hn hw => (heap_setCell_other w _ k v hB).trans (h.block k hk hB hn hw)⟩
theorem Fr.drewN {B : Nat} {nv wv : Value} {a w : World} (h : Fr B nv wv a w) (n : Nat) : Fr B nv wv a (w.drewN n) := ⟨h.os, h.tape, h.output, h.size, h.block⟩
theorem Fr.drew {B : Nat} {nv wv : Value} {a w : World} (h : Fr B nv wv a w) : Fr B nv wv a w.drew := ⟨h.os, h.tape, h.output, h.size, h.block⟩

/-- a value looks like a slice from its row's head on, or nil -/
theorem own_form {w : World} {base : Nat} {v : Value} {n : Nat} {xs : List Value} (h : w.ownsRow base 5 1 v n xs) : v = .slice none 0 0 ∧ n = 0 ∨ ∃ g cap, v = .slice (some ⟨g, 0, none⟩) n cap ∧ n ≤ cap := by
  rcases h.2 with hn | ⟨g, cap, cur, rfl, _, _, hc, _⟩
  · exact .inl hn
  · exact .inr ⟨g, cap, rfl, hc⟩

theorem own_slice {w : World} {base : Nat} {v : Value} {n : Nat} {xs : List Value} (h : w.ownsRow base 5 1 v n xs) : ∃ a cap, v = .slice a n cap := by
  rcases h.2 with ⟨rfl, rfl⟩ | ⟨g, cap, cur, rfl, _⟩
  · exact ⟨none, 0, rfl⟩
  · exact ⟨some ⟨g, 0, none⟩, cap, rfl⟩

/-- AN APPEND OF ONE BYTE TO word: 'wa': the world ahead of the append; 'w1' behind it; then the store -/
theorem push_word {B : Nat} {nv wv : Value} {nrm word : List Int} {d : Bool} {st ln : Int} {dg lt : Bool} {w wa w1 : World} {c : Int} {g cap H : Nat}
    (h : ScanAt B nv wv nrm word d st ln dg lt w) (hb : Below w.heap.size w wa)
    (hown : w1.ownsRow (B + 1) 5 1 (.slice (some ⟨g, 0, none⟩) (word.length + 1) cap) (word.length + 1) (cellsB word ++ [.int .u8 c])) (hgrow : wa.grownBy w1 wv.ownBlock) (hat : wv.ownBlock = some g ∨ g = H) (hH : wa.heap.size = H) :
    ScanAt B nv (.slice (some ⟨g, 0, none⟩) (word.length + 1) cap) nrm (word ++ [c]) d st ln dg lt (w1.setCell ⟨B, 7, none⟩ (.slice (some ⟨g, 0, none⟩) (word.length + 1) cap)) ∧
    Fr B nv wv w (w1.setCell ⟨B, 7, none⟩ (.slice (some ⟨g, 0, none⟩) (word.length + 1) cap)) ∧
    Fresh nv wv nv (.slice (some ⟨g, 0, none⟩) (word.length + 1) cap) w := by
  have ha := h.below hb
  have hsz := hb.size
  have hBlt := ha.lt_size
  have hwB := own_ne ha.own2 ha.blk
  have hnB := own_ne ha.own1 ha.blk
  have hblk1 : w1.heap[B]? = some (.cells (scanCells nv wv d st ln dg lt) 57 (0, 0)) := (hgrow.block B hBlt (fun e => hwB e.symm)).trans ha.blk
  have hn1 : w1.ownsRow (B + 1) 5 1 nv nrm.length (cellsB nrm) := ha.own1.kept hgrow h.apart
  have hgB : g ≠ B := by rcases hat with e | e; exact fun e' => hwB (by rw [e, e']); omega
  refine ⟨⟨?_, ?_, ?_, ?_⟩, ⟨?_, ?_, ?_, ?_, ?_⟩, ?_⟩
  · rw [heap_setCell_same w1 B 7 _ 57 _ hblk1]; simp [scanCells]
  · exact ownsRow_setCell_other hn1 hnB _
  · rw [cellsB_append, List.length_append]
    exact ownsRow_setCell_other hown (by simpa [Value.ownBlock] using hgB) _
  · rcases hat with e | e
    · have := h.apart; rw [e] at this; exact this
    · cases hnv : nv.ownBlock with
      | none => exact .inl rfl
      | some k => right; have := own_lt ha.own1 hnv; simp [Value.ownBlock]; omega
  · exact hgrow.os.trans hb.os
  · exact hgrow.tape.trans hb.tape
  · exact hgrow.output.trans hb.output
  · have := hgrow.size; simp; omega
  · intro k hk hkB _ hkw
    rw [heap_setCell_other w1 _ k _ hkB]
    exact (hgrow.block k (by omega) hkw).trans (hb.block k hk)
  · intro k hk
    rcases hk with hk | hk
    · exact .inl (.inl hk)
    · simp [Value.ownBlock] at hk
      subst hk
      rcases hat with e | e
      · exact .inl (.inr e)
      · right; omega

/-- AN APPEND TO normalized of m cells: 'wa': the world ahead of the append; 'w1' behind it; then the store -/
theorem push_norm {B : Nat} {nv wv : Value} {nrm word news : List Int} {d : Bool} {st ln : Int} {dg lt : Bool} {w wa w1 : World} {m g cap H : Nat}
    (h : ScanAt B nv wv nrm word d st ln dg lt w) (hb : Below w.heap.size w wa) (hm : m = news.length)
    (hown : w1.ownsRow (B + 1) 5 1 (.slice (some ⟨g, 0, none⟩) (nrm.length + m) cap) (nrm.length + m) (cellsB nrm ++ cellsB news)) (hgrow : wa.grownBy w1 nv.ownBlock) (hat : nv.ownBlock = some g ∨ g = H) (hH : wa.heap.size = H) :
    ScanAt B (.slice (some ⟨g, 0, none⟩) (nrm.length + m) cap) wv (nrm ++ news) word d st ln dg lt (w1.setCell ⟨B, 1, none⟩ (.slice (some ⟨g, 0, none⟩) (nrm.length + m) cap)) ∧
    Fr B nv wv w (w1.setCell ⟨B, 1, none⟩ (.slice (some ⟨g, 0, none⟩) (nrm.length + m) cap)) ∧
    Fresh nv wv (.slice (some ⟨g, 0, none⟩) (nrm.length + m) cap) wv w := by
  subst hm
  have ha := h.below hb
  have hsz := hb.size
  have hBlt := ha.lt_size
  have hwB := own_ne ha.own2 ha.blk
  have hnB := own_ne ha.own1 ha.blk
  have hblk1 : w1.heap[B]? = some (.cells (scanCells nv wv d st ln dg lt) 57 (0, 0)) := (hgrow.block B hBlt (fun e => hnB e.symm)).trans ha.blk
  have hap : wv.ownBlock = none ∨ wv.ownBlock ≠ nv.ownBlock := by
    rcases h.apart with e | e
    · rw [e]; cases wv.ownBlock <;> simp
    · exact .inr fun k => e k.symm
  have hn1 : w1.ownsRow (B + 1) 5 1 wv word.length (cellsB word) := ha.own2.kept hgrow hap
  have hgB : g ≠ B := by rcases hat with e | e; exact fun e' => hnB (by rw [e, e']); omega
  refine ⟨⟨?_, ?_, ?_, ?_⟩, ⟨?_, ?_, ?_, ?_, ?_⟩, ?_⟩
  · rw [heap_setCell_same w1 B 1 _ 57 _ hblk1]; simp [scanCells]
  · rw [cellsB_append, List.length_append]
    exact ownsRow_setCell_other hown (by simpa [Value.ownBlock] using hgB) _
  · exact ownsRow_setCell_other hn1 hwB _
  · right
    intro k
    rcases hat with e | e
    · rcases hap with e' | e'
      · rw [e'] at k; simp [Value.ownBlock] at k
      · exact e' (by rw [e, ← k]; rfl)
    · have k' : wv.ownBlock = some g := k.symm
      have := own_lt ha.own2 k'
      omega
  · exact hgrow.os.trans hb.os
  · exact hgrow.tape.trans hb.tape
  · exact hgrow.output.trans hb.output
  · have := hgrow.size; simp; omega
  · intro k hk hkB hkn _
    rw [heap_setCell_other w1 _ k _ hkB]
    exact (hgrow.block k (by omega) hkn).trans (hb.block k hk)
  · intro k hk
    rcases hk with hk | hk
    · simp [Value.ownBlock] at hk
      subst hk
      rcases hat with e | e
      · exact .inl (.inl e)
      · right; omega
    · exact .inl (.inr hk)

/-- the same value stored anew -/
theorem ScanAt.same1 {B : Nat} {nv wv : Value} {nrm word : List Int} {d : Bool} {st ln : Int} {dg lt : Bool} {w : World} (h : ScanAt B nv wv nrm word d st ln dg lt w) : ScanAt B nv wv nrm word d st ln dg lt (w.setCell ⟨B, 1, none⟩ nv) := h.set_any 1 _ rfl
theorem ScanAt.same7 {B : Nat} {nv wv : Value} {nrm word : List Int} {d : Bool} {st ln : Int} {dg lt : Bool} {w : World} (h : ScanAt B nv wv nrm word d st ln dg lt w) : ScanAt B nv wv nrm word d st ln dg lt (w.setCell ⟨B, 7, none⟩ wv) := h.set_any 7 _ rfl

/-- word = word[:0], whatever word is: the slice behind it -/
def cut0 : Value → Value
  | .slice a _ c => .slice a 0 c
  | v => v
theorem ScanAt.cut_all {B : Nat} {nv wv : Value} {nrm word : List Int} {d : Bool} {st ln : Int} {dg lt : Bool} {w : World} (h : ScanAt B nv wv nrm word d st ln dg lt w) :
    ScanAt B nv (cut0 wv) nrm [] d st ln dg lt (w.setCell ⟨B, 7, none⟩ (cut0 wv)) := by
  rcases own_form h.own2 with ⟨rfl, hn⟩ | ⟨g, cap, rfl, _⟩
  · have e : word = [] := List.eq_nil_of_length_eq_zero hn
    subst e
    exact h.same7
  · exact h.cut7 0 (Nat.zero_le _)
theorem cut0_own (v : Value) : (cut0 v).ownBlock = v.ownBlock := by
  cases v <;> try rfl
  rename_i a n c
  cases a <;> rfl

end Go.Proofs.Qxb6003698a.Base
