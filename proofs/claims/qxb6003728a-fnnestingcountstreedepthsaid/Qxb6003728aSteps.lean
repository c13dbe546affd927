/-
  What each step of a round of FnNestingCountsTreeDepth does to the three rows, the innermost container written out.
-/
import Derived.Test.Qxb6003728aPieces
namespace Go.Proofs.Qxb6003728a.Steps
open Go.RowKit Go.Proofs.Qxb6003728a.NestLaw Go.Proofs.Qxb6003728a.Tree Go.Proofs.Qxb6003728a.Pieces
open Go.Proofs.Qxb6003728a.Clone (Src hide info5)

section
variable {W0 wr : World} {ov kv iv : Value} {out kinds items ks is : List Int} {kt it : Int} {gk ck gi ci : Nat}

theorem pop_kind (h : Tree W0.heap.size W0 ov (.slice (some ⟨gk, 0, none⟩) (ks.length + 1) ck) iv out (ks ++ [kt]) items wr) : Tree W0.heap.size W0 ov (.slice (some ⟨gk, 0, none⟩) ks.length ck) iv out ks items wr := by
  have e : ks.length + 1 = (ks ++ [kt]).length := by simp
  rw [e] at h
  have := h.pop_kind
  simpa using this
theorem pop_item (h : Tree W0.heap.size W0 ov kv (.slice (some ⟨gi, 0, none⟩) (is.length + 1) ci) out kinds (is ++ [it]) wr) : Tree W0.heap.size W0 ov kv (.slice (some ⟨gi, 0, none⟩) is.length ci) out kinds is wr := by
  have e : is.length + 1 = (is ++ [it]).length := by simp
  rw [e] at h
  have := h.pop_item
  simpa using this
theorem set_top (h : Tree W0.heap.size W0 ov kv (.slice (some ⟨gi, 0, none⟩) (is.length + 1) ci) out kinds (is ++ [it]) wr) (x : Int) : Tree W0.heap.size W0 ov kv (.slice (some ⟨gi, 0, none⟩) (is.length + 1) ci) out kinds (is ++ [x]) (wr.setCell ⟨gi, is.length, none⟩ (.int .i64 x)) := by
  have e : is.length + 1 = (is ++ [it]).length := by simp
  rw [e] at h
  have := h.set_item is.length x
  simpa using this
theorem kind_form (h : Tree W0.heap.size W0 ov kv iv out (ks ++ [kt]) items wr) : ∃ g c, kv = .slice (some ⟨g, 0, none⟩) (ks.length + 1) c ∧ ks.length + 1 ≤ c := by
  obtain ⟨g, c, e, hc⟩ := own_form h.k (by simp)
  exact ⟨g, c, by simpa using e, by simpa using hc⟩
theorem item_form (h : Tree W0.heap.size W0 ov kv iv out kinds (is ++ [it]) wr) : ∃ g c, iv = .slice (some ⟨g, 0, none⟩) (is.length + 1) c ∧ is.length + 1 ≤ c := by
  obtain ⟨g, c, e, hc⟩ := own_form h.i (by simp)
  exact ⟨g, c, by simpa using e, by simpa using hc⟩
theorem kind_cell (h : Tree W0.heap.size W0 ov (.slice (some ⟨gk, 0, none⟩) (ks.length + 1) ck) iv out (ks ++ [kt]) items wr) : wr.cell? ⟨gk, ks.length, none⟩ = some (.int .u8 kt) := by
  have := top_cell h.k (by simp) ks.length (by simp)
  simpa using this
theorem item_cell (h : Tree W0.heap.size W0 ov kv (.slice (some ⟨gi, 0, none⟩) (is.length + 1) ci) out kinds (is ++ [it]) wr) : wr.cell? ⟨gi, is.length, none⟩ = some (.int .i64 it) ∧ wr.frozen? ⟨gi, is.length, none⟩ = false := by
  have hi := h.i
  rw [show (is ++ [it]).length = is.length + 1 by simp] at hi
  refine ⟨?_, hi.frozenAt _⟩
  rw [hi.cellAt is.length (by omega)]
  simp [cellsI]

theorem closer_snoc : closer (ks ++ [kt]) = if kt = 97 then 93 else 125 := by simp [closer]

/-- zzCloseTop and the cut of kinds behind it -/
theorem close_top (h : Tree W0.heap.size W0 ov (.slice (some ⟨gk, 0, none⟩) (ks.length + 1) ck) iv out (ks ++ [kt]) items wr) (hK : Kinds (ks ++ [kt])) (hm : out.length ≤ 1000000) (hm' : ks.length ≤ 900000) :
    Calls Try.prog 15 #[ov, .slice (some ⟨gk, 0, none⟩) (ks.length + 1) ck] wr fun e w' => ∃ g cap out', e = .returned (.slice (some ⟨g, 0, none⟩) out'.length cap) ∧ Tree W0.heap.size W0 (.slice (some ⟨g, 0, none⟩) out'.length cap) (.slice (some ⟨gk, 0, none⟩) ks.length ck) iv out' ks items w' ∧ out'.length ≤ out.length + 1 ∧ 0 < out'.length ∧ ∀ d, R out d (jq (ks ++ [kt])) → R out' d (jq ks) := by
  have e : ks.length + 1 = (ks ++ [kt]).length := by simp
  have h' := h
  rw [e] at h'
  have hc := close_any h' (by simp) hm (by simp; omega)
  rw [← e] at hc
  refine hc.mono fun x w' ⟨g, cap, hx, hT⟩ => ⟨g, cap, _, hx, pop_kind hT, by simp, by simp, fun d hr => ?_⟩
  have := R_close hK (by simp) hr
  simpa using this

theorem jq_snoc : jq (ks ++ [kt]) = jq ks + if kt = 111 then 2 else 1 := by rw [jq_append]; simp [jq]

end

/-- what holds at the head of every round: k rounds are behind -/
structure LoopSt (W0 : World) (m k : Nat) (ov kv iv : Value) (cu : Nat) (dd : Int) (out kinds items : List Int) (wr : World) : Prop where
  cu_le : cu ≤ m
  d0 : 0 ≤ dd
  d1 : dd ≤ 2 * (k : Int) + 1
  tree : Tree W0.heap.size W0 ov kv iv out kinds items wr
  len : items.length = kinds.length
  kle : kinds.length ≤ k
  ole : out.length ≤ 40 * k
  kin : Kinds kinds
  scan : R out dd (jq kinds)

/-- what holds behind the loop -/
structure FinSt (W0 : World) (ov kv : Value) (dd : Int) (out kinds : List Int) (wr : World) : Prop where
  tree : ∃ iv items, Tree W0.heap.size W0 ov kv iv out kinds items wr
  d0 : 0 ≤ dd
  d1 : dd ≤ 10000
  kle : kinds.length ≤ 4096
  ole : out.length + kinds.length ≤ 200000
  kin : Kinds kinds
  scan : R out dd (jq kinds)

theorem LoopSt.fin {W0 : World} {m k : Nat} {ov kv iv : Value} {cu : Nat} {dd : Int} {out kinds items : List Int} {wr : World} (h : LoopSt W0 m k ov kv iv cu dd out kinds items wr) (hk : k ≤ 4096) : FinSt W0 ov kv dd out kinds wr :=
  ⟨⟨iv, items, h.tree⟩, h.d0, by have := h.d1; omega, by have := h.kle; omega, by have := h.kle; have := h.ole; omega, h.kin, h.scan⟩

theorem loop_start (W0 : World) (m : Nat) : LoopSt W0 m 0 (.slice none 0 0) (.slice none 0 0) (.slice none 0 0) 0 0 [] [] [] W0 :=
  ⟨by omega, by omega, by omega, ⟨World.ownsRow_nil _ _ _ _, World.ownsRow_nil _ _ _ _, World.ownsRow_nil _ _ _ _, .inl rfl, Below.refl _ _, Nat.le_refl _⟩, rfl, by simp, by simp, fun c hc => by simp at hc, R_nil⟩

theorem LoopSt.next {W0 : World} {m k : Nat} {ov kv iv : Value} {cu : Nat} {dd : Int} {out kinds items : List Int} {wr : World} (h : LoopSt W0 m k ov kv iv cu dd out kinds items wr) : LoopSt W0 m (k + 1) ov kv iv cu dd out kinds items wr :=
  ⟨h.cu_le, h.d0, by have := h.d1; omega, h.tree, h.len, by have := h.kle; omega, by have := h.ole; omega, h.kin, h.scan⟩

/-- what holds in the middle of a round: the comma and the key are written -/
structure Mid (W0 : World) (m k : Nat) (ov kv iv : Value) (cu : Nat) (dd : Int) (out kinds items : List Int) (wr : World) : Prop where
  cu_le : cu ≤ m
  d0 : 0 ≤ dd
  d1 : dd ≤ 2 * (k : Int) + 1
  tree : Tree W0.heap.size W0 ov kv iv out kinds items wr
  len : items.length = kinds.length
  kle : kinds.length ≤ k
  ole : out.length ≤ 40 * k + 20
  kin : Kinds kinds
  scan : R out dd (jq kinds)

theorem LoopSt.mid {W0 : World} {m k : Nat} {ov kv iv : Value} {cu : Nat} {dd : Int} {out kinds items : List Int} {wr : World} (h : LoopSt W0 m k ov kv iv cu dd out kinds items wr) : Mid W0 m k ov kv iv cu dd out kinds items wr :=
  ⟨h.cu_le, h.d0, h.d1, h.tree, h.len, h.kle, by have := h.ole; omega, h.kin, h.scan⟩

section
variable {W0 wr : World} {ov kv iv : Value} {out kinds items is : List Int} {it : Int} {gi ci n : Nat}
theorem item_form' (h : Tree W0.heap.size W0 ov kv iv out kinds (is ++ [it]) wr) (hn : is.length = n) : ∃ g c, iv = .slice (some ⟨g, 0, none⟩) (n + 1) c ∧ n + 1 ≤ c := by subst hn; exact item_form h
theorem item_cell' (h : Tree W0.heap.size W0 ov kv (.slice (some ⟨gi, 0, none⟩) (n + 1) ci) out kinds (is ++ [it]) wr) (hn : is.length = n) : wr.cell? ⟨gi, n, none⟩ = some (.int .i64 it) ∧ wr.frozen? ⟨gi, n, none⟩ = false := by subst hn; exact item_cell h
theorem set_top' (h : Tree W0.heap.size W0 ov kv (.slice (some ⟨gi, 0, none⟩) (n + 1) ci) out kinds (is ++ [it]) wr) (hn : is.length = n) (x : Int) : Tree W0.heap.size W0 ov kv (.slice (some ⟨gi, 0, none⟩) (n + 1) ci) out kinds (is ++ [x]) (wr.setCell ⟨gi, n, none⟩ (.int .i64 x)) := by subst hn; exact set_top h x
theorem pop_item' (h : Tree W0.heap.size W0 ov kv (.slice (some ⟨gi, 0, none⟩) (n + 1) ci) out kinds (is ++ [it]) wr) (hn : is.length = n) : Tree W0.heap.size W0 ov kv (.slice (some ⟨gi, 0, none⟩) n ci) out kinds is wr := by subst hn; exact pop_item h
end

section
variable {W0 wr : World} {ov kv iv : Value} {out kinds items : List Int} {gi ci n : Nat}
theorem set_any (h : Tree W0.heap.size W0 ov kv (.slice (some ⟨gi, 0, none⟩) n ci) out kinds items wr) (hn : items.length = n) (j : Nat) (x : Int) : ∃ items2, items2.length = n ∧ Tree W0.heap.size W0 ov kv (.slice (some ⟨gi, 0, none⟩) n ci) out kinds items2 (wr.setCell ⟨gi, j, none⟩ (.int .i64 x)) := by
  subst hn
  have := h.set_item j x
  rw [show (items.set j x).length = items.length by simp] at this
  exact ⟨items.set j x, by simp, this⟩
theorem item_at (h : Tree W0.heap.size W0 ov kv (.slice (some ⟨gi, 0, none⟩) n ci) out kinds items wr) (hn : items.length = n) (j : Nat) (hj : j < n) : wr.cell? ⟨gi, j, none⟩ = some (.int .i64 (items.getD j 0)) ∧ wr.frozen? ⟨gi, j, none⟩ = false := by
  subst hn
  refine ⟨?_, h.i.frozenAt _⟩
  rw [h.i.cellAt j (by omega)]
  simp [cellsI, List.getD, hj]
theorem kind_at {gk ck : Nat} (h : Tree W0.heap.size W0 ov (.slice (some ⟨gk, 0, none⟩) kinds.length ck) iv out kinds items wr) (j : Nat) (hj : j < kinds.length) : wr.cell? ⟨gk, j, none⟩ = some (.int .u8 (kinds.getD j 0)) := top_cell h.k rfl j hj
theorem item_is (h : Tree W0.heap.size W0 ov kv iv out kinds items wr) (hn : items.length = n) (hp : 0 < n) : ∃ g c, iv = .slice (some ⟨g, 0, none⟩) n c ∧ n ≤ c := by
  subst hn; exact own_form h.i hp
theorem kind_is {ka : Option Addr} {kc : Nat} (h : Tree W0.heap.size W0 ov (.slice ka kinds.length kc) iv out kinds items wr) (hp : 0 < kinds.length) : ∃ g, ka = some ⟨g, 0, none⟩ := by
  obtain ⟨g, c, e, _⟩ := own_form h.k hp
  simp at e
  exact ⟨g, e.1⟩
end

theorem snoc_of {l : List Int} (h : l ≠ []) : ∃ r t, l = r ++ [t] := by
  refine ⟨l.dropLast, l.getLast h, ?_⟩
  exact (List.dropLast_concat_getLast h).symm

end Go.Proofs.Qxb6003728a.Steps
