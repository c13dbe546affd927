/-
  THE THREE ROWS that FnNestingCountsTreeDepth builds (out, kinds: bytes; items: ints), and what an append, a cut, a store does to them: laws on worlds alone. And 'append(out, "..."...)' with the place where the new slice lies.
-/
import Derived.WalkKit
import Derived.Deep.AppendLies
import Derived.Lib.AppendStr
import Derived.WalkSmall
import Derived.Test.Qxb6003728aClone
namespace Go.Proofs.Qxb6003728a.Tree
open Go.RowKit
open Go.Proofs.Qxb6003728a.Clone (Src hide)

def cellsB (l : List Int) : List Value := l.map (Value.int .u8)
@[simp] theorem cellsB_length (l : List Int) : (cellsB l).length = l.length := by simp [cellsB]
theorem cellsB_append (a b : List Int) : cellsB (a ++ b) = cellsB a ++ cellsB b := by simp [cellsB]
def cellsI (l : List Int) : List Value := l.map (Value.int .i64)
@[simp] theorem cellsI_length (l : List Int) : (cellsI l).length = l.length := by simp [cellsI]
theorem cellsI_append (a b : List Int) : cellsI (a ++ b) = cellsI a ++ cellsI b := by simp [cellsI]

/-! ### append of a string's bytes, and where the new slice lies -/
section
variable {P : Program} (w : World)
theorem run_append_string_at (base : Nat) (t u ty e : TypeId) (i : TypeInfo) (ht : P.underlying t = some (.slice e)) (hu : P.underlying u = some .string) (hi : P.info? e = some i) (hz : i.zero = some (.int .u8 0))
    (hsize : i.size = 1) (hby : i.bytes = 1) (v : Value) (n : Nat) (xs : List Value) (hown : w.ownsRow base e 1 v n xs) (s : ByteArray) (hpos : 0 < s.size)
    (h63 : n + s.size ≤ maxLen) (hbytes : n + s.size ≤ 140737488355328) (hbase : base ≤ w.heap.size) :
    ∃ g cap w', (Builtin.append_ #[t, u] ty #[v, .string s]).run P w = .ok (.slice (some ⟨g, 0, none⟩) (n + s.size) cap) w' ∧ w'.ownsRow base e 1 (.slice (some ⟨g, 0, none⟩) (n + s.size) cap) (n + s.size) (xs ++ Lib.strCells s) ∧ w.grownBy w' v.ownBlock ∧
      (v.ownBlock = some g ∨ g = w.heap.size) := by
  obtain ⟨v', w', hr, h1, h2, h3⟩ := Lib.run_append_own_string (P := P) w base t u ty e i ht hu hi hz hsize hby v n xs hown s h63 hbytes hbase
  obtain ⟨g', cap', rfl, _, _⟩ := h1.form (by omega)
  refine ⟨g', cap', w', hr, h1, h2, ?_⟩
  have hsmall : n + s.size ≤ 9223372036854775807 := by simp only [maxLen] at h63; omega
  have hxl : xs.length = n := by simpa using hown.1
  rcases hown.2 with ⟨rfl, rfl⟩ | ⟨g, cap, cur, rfl, hbg, hg, hnc, hcm, hcs, htake⟩
  · have hr2 := run_append_nil_string (P := P) w t u ty e i (.int .u8 0) ht hu hi hz s (by omega) (by omega) (by rw [hby]; omega)
    rw [hr2] at hr
    simp at hr
    exact .inr hr.1.1.symm
  · by_cases hroom : n + s.size ≤ cap
    · have hcs' : cur.size = cap := by simpa using hcs
      have hr2 := Lib.run_append_room_string (P := P) w t u ty e i ht hu hi hsize g n cap cur hg s hroom (by omega)
      rw [hr2] at hr
      simp at hr
      left
      simp [Value.ownBlock]
      exact hr.1.1
    · have holds : ∀ j u, xs[j]? = some u → w.cell? ((⟨g, 0, none⟩ : Addr).add j) = some u := hown.cells (g := g) rfl
      have hr2 := Lib.run_append_grow_string (P := P) w t u ty e i (.int .u8 0) ht hu hi hz ⟨g, 0, none⟩ n cap xs (by rw [hsize]; simpa using hxl) holds s (by omega) (by omega) (by rw [hby]; exact growslice_fits (by omega) (by omega))
      rw [hr2] at hr
      simp at hr
      exact .inr hr.1.1.symm

theorem wpList_append_string {ops : Array Oper} {rest : List Oper} {o : Oper} {a : Act} {Q : Exit → Act → World → Prop} (hgd : o.guard = none) (sd x : Operand) (t u : TypeId)
    (ho : o.op = .call { callee := .builtin .append, args := #[sd, x], argTypes := #[t, u] })
    (base : Nat) (e : TypeId) (i : TypeInfo) (ht : P.underlying t = some (.slice e)) (hu : P.underlying u = some .string) (hi : P.info? e = some i) (hz : i.zero = some (.int .u8 0))
    (hsize : i.size = 1) (hby : i.bytes = 1) (v : Value) (n : Nat) (xs : List Value) (hs : a.eval sd = v) (hown : w.ownsRow base e 1 v n xs) (s : ByteArray) (hx : a.eval x = .string s) (hpos : 0 < s.size)
    (h63 : n + s.size ≤ maxLen) (hbytes : n + s.size ≤ 140737488355328) (hbase : base ≤ w.heap.size)
    (h : ∀ g cap w', w'.ownsRow base e 1 (.slice (some ⟨g, 0, none⟩) (n + s.size) cap) (n + s.size) (xs ++ Lib.strCells s) → w.grownBy w' v.ownBlock → (v.ownBlock = some g ∨ g = w.heap.size) → wpList P ops Q rest (a.put o.dst (.slice (some ⟨g, 0, none⟩) (n + s.size) cap)) w') : wpList P ops Q (o :: rest) a w := by
  obtain ⟨g, cap, w', hr, h1, h2, h3⟩ := run_append_string_at (P := P) w base t u o.type e i ht hu hi hz hsize hby v n xs hown s hpos h63 hbytes hbase
  refine wpList_plain hgd fun K hK => ?_
  unfold Oper.wp execOp
  simp only [ho, resolve, invoke, builtin, Sem.run_bind, Sem.run_pure, Result.andThen_ok, List.map_toArray, List.map_cons, List.map_nil, hs, hx, hr]
  exact hK _ _ (h g cap w' h1 h2 h3)
end

/-! ### the three rows -/
structure Tree (base : Nat) (W0 : World) (ov kv iv : Value) (out kinds items : List Int) (wr : World) : Prop where
  o : wr.ownsRow base 5 1 ov out.length (cellsB out)
  k : wr.ownsRow base 5 1 kv kinds.length (cellsB kinds)
  i : wr.ownsRow base 3 1 iv items.length (cellsI items)
  apart : ov.ownBlock = none ∨ ov.ownBlock ≠ kv.ownBlock
  bel : Below base W0 wr
  le : base ≤ wr.heap.size

theorem own_kept {w w' : World} {base : Nat} {e : TypeId} {v : Value} {n : Nat} {xs : List Value} (h : w.ownsRow base e 1 v n xs) (hk : ∀ k, v.ownBlock = some k → w'.heap[k]? = w.heap[k]?) : w'.ownsRow base e 1 v n xs := by
  refine ⟨h.1, ?_⟩
  rcases h.2 with hn | ⟨g, cap, cur, rfl, hb, hgg, rest⟩
  · exact .inl hn
  · exact .inr ⟨g, cap, cur, rfl, hb, (hk g rfl).trans hgg, rest⟩
theorem own_lt {w : World} {base : Nat} {e : TypeId} {v : Value} {n : Nat} {xs : List Value} (h : w.ownsRow base e 1 v n xs) {k : Nat} (hk : v.ownBlock = some k) : k < w.heap.size := (h.lt k hk).2
theorem own_ge {w : World} {base : Nat} {e : TypeId} {v : Value} {n : Nat} {xs : List Value} (h : w.ownsRow base e 1 v n xs) {k : Nat} (hk : v.ownBlock = some k) : base ≤ k := (h.lt k hk).1
theorem own_slice {w : World} {base : Nat} {e : TypeId} {v : Value} {n : Nat} {xs : List Value} (h : w.ownsRow base e 1 v n xs) : ∃ a cap, v = .slice a n cap := by
  rcases h.2 with ⟨rfl, rfl⟩ | ⟨g, cap, cur, rfl, _⟩
  · exact ⟨none, 0, rfl⟩
  · exact ⟨some ⟨g, 0, none⟩, cap, rfl⟩
theorem own_form {w : World} {base : Nat} {e : TypeId} {v : Value} {n : Nat} {xs : List Value} (h : w.ownsRow base e 1 v n xs) (hn : 0 < n) : ∃ g cap, v = .slice (some ⟨g, 0, none⟩) n cap ∧ n ≤ cap := by
  rcases h.2 with ⟨_, h0⟩ | ⟨g, cap, cur, rfl, _, _, hc, _⟩
  · omega
  · exact ⟨g, cap, rfl, hc⟩
/-- a row of bytes and a row of ints are two rows -/
theorem own_types {w : World} {base : Nat} {v u : Value} {n m : Nat} {xs ys : List Value} (h : w.ownsRow base 5 1 v n xs) (h' : w.ownsRow base 3 1 u m ys) : v.ownBlock = none ∨ v.ownBlock ≠ u.ownBlock := by
  rcases h.2 with ⟨rfl, _⟩ | ⟨g, cap, cur, rfl, _, hg, _⟩
  · exact .inl rfl
  · right
    intro e
    rcases h'.2 with ⟨rfl, _⟩ | ⟨g', cap', cur', rfl, _, hg', _⟩
    · simp [Value.ownBlock] at e
    · simp [Value.ownBlock] at e
      subst e
      rw [hg] at hg'
      simp at hg'
theorem ne_symm {a b : Option Nat} (h : a = none ∨ a ≠ b) : b = none ∨ b ≠ a := by
  rcases h with h | h
  · subst h; cases b <;> simp
  · exact .inr fun e => h e.symm
/-- what an owned row of bytes leads to -/
theorem own_src {w : World} {base : Nat} {a : Option Addr} {n cap : Nat} {zs : List Int} (h : w.ownsRow base 5 1 (.slice a n cap) zs.length (cellsB zs)) : Src w a zs := by
  rcases h.2 with ⟨e, hn⟩ | ⟨g, cap', cur, e, hb, hg, hc, _⟩
  · exact .inl (List.eq_nil_of_length_eq_zero hn)
  · simp at e
    obtain ⟨rfl, rfl, rfl⟩ := e
    refine .inr ⟨g, 0, rfl, (Array.getElem?_eq_some_iff.1 hg).1, fun i hi => ?_⟩
    rw [Nat.zero_add, h.cellAt i (by omega)]
    simp [cellsB, List.getD, hi]

section
variable {base : Nat} {W0 : World} {ov kv iv : Value} {out kinds items : List Int} {wr : World}

theorem Tree.below (h : Tree base W0 ov kv iv out kinds items wr) {w' : World} (hb : Below wr.heap.size wr w') : Tree base W0 ov kv iv out kinds items w' :=
  ⟨own_kept h.o fun k hk => hb.block k (own_lt h.o hk), own_kept h.k fun k hk => hb.block k (own_lt h.k hk), own_kept h.i fun k hk => hb.block k (own_lt h.i hk), h.apart, h.bel.trans (hb.mono h.le), Nat.le_trans h.le hb.size⟩

/-- an append to out: 'wa': the world ahead of it -/
theorem Tree.push_out (h : Tree base W0 ov kv iv out kinds items wr) {wa w1 : World} {m g cap H : Nat} {news : List Int} (hb : Below wr.heap.size wr wa) (hm : m = news.length)
    (hown : w1.ownsRow base 5 1 (.slice (some ⟨g, 0, none⟩) (out.length + m) cap) (out.length + m) (cellsB out ++ cellsB news)) (hgrow : wa.grownBy w1 ov.ownBlock) (hat : ov.ownBlock = some g ∨ g = H) (hH : wa.heap.size = H) :
    Tree base W0 (.slice (some ⟨g, 0, none⟩) (out ++ news).length cap) kv iv (out ++ news) kinds items w1 := by
  have ha := h.below hb
  have hsz := hb.size
  have el : out.length + m = (out ++ news).length := by rw [hm]; simp
  rw [el, ← cellsB_append] at hown
  refine ⟨hown, ha.k.kept hgrow (ne_symm h.apart), ha.i.kept hgrow (ne_symm (own_types ha.o ha.i)), ?_, ?_, ?_⟩
  · right
    intro k
    rcases hat with e | e
    · rcases h.apart with e' | e'
      · rw [e'] at e; cases e
      · exact e' (by rw [e, ← k]; rfl)
    · have k' : kv.ownBlock = some g := k.symm
      have := own_lt ha.k k'; omega
  · exact h.bel.trans ((hb.mono h.le).grown hgrow ha.le (fun k hk => own_ge ha.o hk))
  · have := hgrow.size; have := ha.le; omega

/-- an append to kinds -/
theorem Tree.push_kind (h : Tree base W0 ov kv iv out kinds items wr) {wa w1 : World} {g cap H : Nat} {c : Int} (hb : Below wr.heap.size wr wa)
    (hown : w1.ownsRow base 5 1 (.slice (some ⟨g, 0, none⟩) (kinds.length + 1) cap) (kinds.length + 1) (cellsB kinds ++ [.int .u8 c])) (hgrow : wa.grownBy w1 kv.ownBlock) (hat : kv.ownBlock = some g ∨ g = H) (hH : wa.heap.size = H) :
    Tree base W0 ov (.slice (some ⟨g, 0, none⟩) (kinds ++ [c]).length cap) iv out (kinds ++ [c]) items w1 := by
  have ha := h.below hb
  have hsz := hb.size
  have el : kinds.length + 1 = (kinds ++ [c]).length := by simp
  rw [el, show cellsB kinds ++ [Value.int .u8 c] = cellsB (kinds ++ [c]) by rw [cellsB_append]; rfl] at hown
  refine ⟨ha.o.kept hgrow h.apart, hown, ha.i.kept hgrow (ne_symm (own_types ha.k ha.i)), ?_, ?_, ?_⟩
  · rcases hat with e | e
    · have := h.apart; rw [e] at this; exact this
    · cases hov : ov.ownBlock with
      | none => exact .inl rfl
      | some k => right; have := own_lt ha.o hov; simp [Value.ownBlock]; omega
  · exact h.bel.trans ((hb.mono h.le).grown hgrow ha.le (fun k hk => own_ge ha.k hk))
  · have := hgrow.size; have := ha.le; omega

/-- an append to items -/
theorem Tree.push_item (h : Tree base W0 ov kv iv out kinds items wr) {wa w1 : World} {g cap : Nat} {c : Int} (hb : Below wr.heap.size wr wa)
    (hown : w1.ownsRow base 3 1 (.slice (some ⟨g, 0, none⟩) (items.length + 1) cap) (items.length + 1) (cellsI items ++ [.int .i64 c])) (hgrow : wa.grownBy w1 iv.ownBlock) :
    Tree base W0 ov kv (.slice (some ⟨g, 0, none⟩) (items ++ [c]).length cap) out kinds (items ++ [c]) w1 := by
  have ha := h.below hb
  have el : items.length + 1 = (items ++ [c]).length := by simp
  rw [el, show cellsI items ++ [Value.int .i64 c] = cellsI (items ++ [c]) by rw [cellsI_append]; rfl] at hown
  exact ⟨ha.o.kept hgrow (own_types ha.o ha.i), ha.k.kept hgrow (own_types ha.k ha.i), hown, h.apart,
    h.bel.trans ((hb.mono h.le).grown hgrow ha.le (fun k hk => own_ge ha.i hk)), by have := hgrow.size; have := ha.le; omega⟩

/-- a row cut by one at its end -/
theorem own_cut {w : World} {e : TypeId} {g n cap : Nat} {xs : List Value} (h : w.ownsRow base e 1 (.slice (some ⟨g, 0, none⟩) n cap) n xs) (m : Nat) (hm : m ≤ n) : w.ownsRow base e 1 (.slice (some ⟨g, 0, none⟩) m cap) m (xs.take m) := by
  have hx : xs.length = n := by simpa using h.1
  refine ⟨by simp; omega, ?_⟩
  rcases h.2 with ⟨e', _⟩ | ⟨g', cap', cur, e', hb, hg, hn, hm', hs, ht⟩
  · simp at e'
  · simp at e'
    obtain ⟨rfl, rfl⟩ := e'
    refine .inr ⟨g, cap, cur, rfl, hb, hg, by omega, hm', hs, ?_⟩
    rw [Nat.mul_one]
    rw [Nat.mul_one] at ht
    rw [← ht, List.take_take, Nat.min_eq_left hm]

theorem Tree.pop_kind {g cap : Nat} (h : Tree base W0 ov (.slice (some ⟨g, 0, none⟩) kinds.length cap) iv out kinds items wr) : Tree base W0 ov (.slice (some ⟨g, 0, none⟩) (kinds.take (kinds.length - 1)).length cap) iv out (kinds.take (kinds.length - 1)) items wr := by
  have e : (kinds.take (kinds.length - 1)).length = kinds.length - 1 := by simp
  have := own_cut h.k (kinds.length - 1) (by omega)
  refine ⟨h.o, ?_, h.i, h.apart, h.bel, h.le⟩
  rw [e, show cellsB (kinds.take (kinds.length - 1)) = (cellsB kinds).take (kinds.length - 1) by simp [cellsB, List.map_take]]
  exact this
theorem Tree.pop_item {g cap : Nat} (h : Tree base W0 ov kv (.slice (some ⟨g, 0, none⟩) items.length cap) out kinds items wr) : Tree base W0 ov kv (.slice (some ⟨g, 0, none⟩) (items.take (items.length - 1)).length cap) out kinds (items.take (items.length - 1)) wr := by
  have e : (items.take (items.length - 1)).length = items.length - 1 := by simp
  have := own_cut h.i (items.length - 1) (by omega)
  refine ⟨h.o, h.k, ?_, h.apart, h.bel, h.le⟩
  rw [e, show cellsI (items.take (items.length - 1)) = (cellsI items).take (items.length - 1) by simp [cellsI, List.map_take]]
  exact this

/-- a store into items -/
theorem Tree.set_item {g cap : Nat} (h : Tree base W0 ov kv (.slice (some ⟨g, 0, none⟩) items.length cap) out kinds items wr) (j : Nat) (x : Int) : Tree base W0 ov kv (.slice (some ⟨g, 0, none⟩) (items.set j x).length cap) out kinds (items.set j x) (wr.setCell ⟨g, j, none⟩ (.int .i64 x)) := by
  have hs := h.i.stored j (.int .i64 x)
  have e : (items.set j x).length = items.length := by simp
  have hlt := h.i.lt g rfl
  refine ⟨h.o.kept hs.2 ?_, h.k.kept hs.2 ?_, ?_, h.apart, h.bel.trans ((Below.refl _ _).setCell hlt.1 _), by simpa using h.le⟩
  · exact own_types h.o h.i
  · exact own_types h.k h.i
  · rw [e, show cellsI (items.set j x) = (cellsI items).set j (.int .i64 x) by simp [cellsI, List.map_set]]
    exact hs.1

end
end Go.Proofs.Qxb6003728a.Tree
