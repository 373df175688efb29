/- append(s, xs...) where the two slices are of types with different names. -/
import Derived.Test.YtafanlbfbfbeoaaDa
import Derived.Deep.AppendLies
namespace Go.Proofs.Ytafanlbfbfbeoaa
open Go.RowKit

theorem run_append_tx {P : Program} (w : World) (t tx ty : TypeId) (e e' : TypeId) (h1 : P.underlying t = some (.slice e)) (h2 : P.underlying tx = some (.slice e')) (args : Array Value) :
    (Builtin.append_ #[t, tx] ty args).run P w = (Builtin.append_ #[t, t] ty args).run P w := by
  unfold Builtin.append_
  simp only [List.getElem?_toArray, List.getElem?_cons_zero, List.getElem?_cons_succ]
  cases args[0]? with
  | none => rfl
  | some s =>
    cases args[1]? with
    | none => rfl
    | some x =>
      simp only [Sem.run_bind, run_underlying h1, Result.andThen_ok]
      cases s <;> try rfl
      simp only [Sem.run_bind]
      congr 1
      funext size w'
      simp only [Sem.run_bind, run_underlying h1, run_underlying h2, Result.andThen_ok, Sem.run_pure]

/-- 'out = append(out, xs...)', the types' names apart. -/
theorem wpList_pushAllT {P : Program} {ops : Array Oper} {rest : List Oper} {o : Oper} {a : Act} {Q : Exit → Act → World → Prop} (hgd : o.guard = none) (s x : Operand) (t tx : TypeId)
    (ho : o.op = .call { callee := .builtin .append, args := #[s, x], argTypes := #[t, tx] }) (e' : TypeId) (htx : P.underlying tx = some (.slice e'))
    (e : TypeId) (i : TypeInfo) (z : Value) (size bytes : Nat) (ht : P.underlying t = some (.slice e)) (hi : P.info? e = some i) (hz : i.zero = some z)
    (hsize : i.size = size) (hby : i.bytes = bytes) (hzs : z.cells.size = size) (hsz : 0 < size) (hbs : bytes ≤ 1000)
    (W w0 : World) (B : Nat) (v : Value) (n : Nat) (xs : List Value) (hs : a.eval s = v) (hown : w0.ownsRow B e size v n xs) (C : Nat) (hbel : Below C W w0) (hCB : C ≤ B) (hBs : B ≤ w0.heap.size) (hn : n ≤ 1000000000)
    (news : List Value) (B' gx m c : Nat) (e2 : TypeId) (hrow : w0.ownsRow B' e2 size (.slice (some ⟨gx, 0, none⟩) m c) m news) (hm : 0 < m) (hm' : m ≤ 1000000000) (hx : a.eval x = .slice (some ⟨gx, 0, none⟩) m c) (h1 : ∀ u ∈ news, u.oneCell' = true) (hCw : C ≤ W.heap.size)
    (h : ∀ g cap w', w'.ownsRow B e size (.slice (some ⟨g, 0, none⟩) (n + m) cap) (n + m) (xs ++ news) → Below C W w' →
      w0.grownBy w' v.ownBlock → (v.ownBlock = some g ∨ g = w0.heap.size) → g < w'.heap.size → wpList P ops Q rest (a.put o.dst (.slice (some ⟨g, 0, none⟩) (n + m) cap)) w') :
    wpList P ops Q (o :: rest) a w0 := by
  refine wpList_plain hgd fun K hK => ?_
  have h2 : (n + m) * bytes ≤ (n + m) * 1000 := Nat.mul_le_mul_left _ hbs
  obtain ⟨g, cap, w', hr, ho1, hg1, hat, hlt⟩ := run_append_lies (P := P) w0 t o.type B e i z size bytes ht hi hz hsize hby hzs hsz v n xs hown ⟨gx, 0, none⟩ m c news hrow.1 (fun j u hj => hrow.cells rfl j u hj) h1 hm (by unfold maxLen; omega) (by omega) hBs w0.heap.size rfl
  unfold Oper.wp execOp
  simp only [ho, resolve, invoke, builtin, Sem.run_bind, Sem.run_pure, Result.andThen_ok, List.map_toArray, List.map_cons, List.map_nil, hs, hx, run_append_tx w0 t tx o.type e e' ht htx, hr]
  exact hK _ _ (h g cap w' ho1 (hbel.grown hg1 (Nat.le_trans hCw hbel.size) fun k hk => Nat.le_trans hCB (hown.lt k hk).1) hg1 hat hlt)
end Go.Proofs.Ytafanlbfbfbeoaa
