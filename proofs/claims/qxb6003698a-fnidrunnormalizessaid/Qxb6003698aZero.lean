/-
  'append(out, xs...)' where xs holds nothing (nil, or empty): out and the world are as they were: three forms of one law.
-/
import Derived.Laws.OwnMore
import Derived.OwnWalk
import Derived.Tactics
import Derived.RegionTactic
namespace Go.Proofs.Qxb6003698a.Zero
variable {P : Program} (w : World)

theorem run_append_zero (base : Nat) (t ty e : TypeId) (i : TypeInfo) (size : Nat) (ht : P.underlying t = some (.slice e)) (hi : P.info? e = some i)
    (v : Value) (n : Nat) (xs : List Value) (hown : w.ownsRow base e size v n xs) (ax : Option Addr) (c : Nat) :
    (Builtin.append_ #[t, t] ty #[v, .slice ax 0 c]).run P w = .ok v w := by
  rcases hown.2 with ⟨rfl, rfl⟩ | ⟨g, cap, cur, rfl, _, _, hnc, _⟩
  · cases ax <;> simp [Builtin.append_, run_underlying ht, sizeOf, typeInfo, hi, Builtin.lenOf, Builtin.firstCells, loadCells, loadCellsFrom]
  · cases ax <;> simp [Builtin.append_, run_underlying ht, sizeOf, typeInfo, hi, Builtin.lenOf, Builtin.firstCells, loadCells, loadCellsFrom, hnc, storeCells]

theorem wp_append_zero {o : Oper} {a : Act} {K : Act → World → Prop} {Q : Exit → Act → World → Prop} (s x : Operand) (t : TypeId)
    (ho : o.op = .call { callee := .builtin .append, args := #[s, x], argTypes := #[t, t] })
    (base : Nat) (e : TypeId) (i : TypeInfo) (size : Nat) (ht : P.underlying t = some (.slice e)) (hi : P.info? e = some i)
    (v : Value) (n : Nat) (xs : List Value) (hs : a.eval s = v) (hown : w.ownsRow base e size v n xs) (ax : Option Addr) (c : Nat) (hx : a.eval x = .slice ax 0 c)
    (h : K (a.put o.dst v) w) : o.wp P a w K Q := by
  have hr := run_append_zero (P := P) w base t o.type e i size ht hi v n xs hown ax c
  unfold Oper.wp execOp
  simp only [ho, resolve, invoke, builtin, Sem.run_bind, Sem.run_pure, Result.andThen_ok, List.map_toArray, List.map_cons, List.map_nil, hs, hx, hr]
  exact h

theorem wpList_append_zero {ops : Array Oper} {rest : List Oper} {o : Oper} {a : Act} {Q : Exit → Act → World → Prop} (hgd : o.guard = none) (s x : Operand) (t : TypeId)
    (ho : o.op = .call { callee := .builtin .append, args := #[s, x], argTypes := #[t, t] })
    (base : Nat) (e : TypeId) (i : TypeInfo) (size : Nat) (ht : P.underlying t = some (.slice e)) (hi : P.info? e = some i)
    (v : Value) (n : Nat) (xs : List Value) (hs : a.eval s = v) (hown : w.ownsRow base e size v n xs) (ax : Option Addr) (c : Nat) (hx : a.eval x = .slice ax 0 c)
    (h : wpList P ops Q rest (a.put o.dst v) w) : wpList P ops Q (o :: rest) a w :=
  wpList_plain hgd fun _ hK => wp_append_zero w s x t ho base e i size ht hi v n xs hs hown ax c hx (hK _ _ h)

theorem step_append_zero {ops : Array Oper} {o : Oper} {a : Act} {K : Act → World → Prop} {Q : Exit → Act → World → Prop} {E : Prop} (hgd : o.guard = none) (s x : Operand) (t : TypeId)
    (ho : o.op = .call { callee := .builtin .append, args := #[s, x], argTypes := #[t, t] })
    (base : Nat) (e : TypeId) (i : TypeInfo) (size : Nat) (ht : P.underlying t = some (.slice e)) (hi : P.info? e = some i)
    (v : Value) (n : Nat) (xs : List Value) (hs : a.eval s = v) (hown : w.ownsRow base e size v n xs) (ax : Option Addr) (c : Nat) (hx : a.eval x = .slice ax 0 c)
    (h : K (a.put o.dst v) w) :
    if Region.wanted o (yielded ops a.tmps) = true then Oper.wp P o a w K Q else E := by
  have hw : Region.wanted o (yielded ops a.tmps) = true := by simp [Region.wanted, hgd]
  rw [if_pos hw]
  exact wp_append_zero w s x t ho base e i size ht hi v n xs hs hown ax c hx h

/-- 'append(out, xs...)' whatever xs is -/
theorem wpList_append_src {ops : Array Oper} {rest : List Oper} {o : Oper} {a : Act} {Q : Exit → Act → World → Prop} (hgd : o.guard = none) (s x : Operand) (t : TypeId)
    (ho : o.op = .call { callee := .builtin .append, args := #[s, x], argTypes := #[t, t] })
    (base : Nat) (e : TypeId) (i : TypeInfo) (z : Value) (bytes : Nat) (ht : P.underlying t = some (.slice e)) (hi : P.info? e = some i) (hz : i.zero = some z)
    (hsize : i.size = 1) (hby : i.bytes = bytes) (hzs : z.cells.size = 1)
    (v : Value) (n : Nat) (xs : List Value) (hs : a.eval s = v) (hown : w.ownsRow base e 1 v n xs)
    (ax : Option Addr) (m c : Nat) (news : List Value) (hx : a.eval x = .slice ax m c) (hl : news.length = m) (hsrc : m = 0 ∨ ∃ ad, ax = some ad ∧ ∀ j u, news[j]? = some u → w.cell? (ad.add j) = some u) (h1 : ∀ u ∈ news, u.oneCell' = true)
    (h63 : n + m ≤ maxLen) (hbytes : (n + m) * bytes ≤ 140737488355328) (hbase : base ≤ w.heap.size)
    (h : ∀ v' w', w'.ownsRow base e 1 v' (n + m) (xs ++ news) → w.grownBy w' v.ownBlock → wpList P ops Q rest (a.put o.dst v') w') : wpList P ops Q (o :: rest) a w := by
  rcases hsrc with rfl | ⟨ad, rfl, hc⟩
  · have e0 : news = [] := List.eq_nil_of_length_eq_zero hl
    subst e0
    exact wpList_append_zero w hgd s x t ho base e i 1 ht hi v n xs hs hown ax c hx (h v w (by simpa using hown) (World.grownBy.refl _ _))
  · exact wpList_append_own w hgd s x t ho base e i z 1 bytes ht hi hz hsize hby hzs (by decide) v n xs hs hown ad m c news hx (by omega) hc h1 h63 hbytes hbase fun v' w' k1 k2 _ => h v' w' k1 k2

end Go.Proofs.Qxb6003698a.Zero
