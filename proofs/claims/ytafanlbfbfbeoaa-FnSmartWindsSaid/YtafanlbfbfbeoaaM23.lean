/- What the proofs over smartclip lean on, part 24 of 48. -/
import Derived.Test.YtafanlbfbfbeoaaM22
import Derived.Test.YtafanlbfbfbeoaaM00
import Derived.Deep.AppendLies

/- The sort, whole. -/
namespace Go.Proofs.Ytafanlbfbfbeoaa
open Go.RowKit

section
variable {T : TypeId} {rv : Value} {gn gl gs : Nat} {rn rl rs : Value} {lt : Nat → Nat → Bool} {n : Nat} {own : Nat → Prop} {R : Array Nat → World → Prop} {RW : World → Prop}

set_option maxRecDepth 100000 in
set_option maxHeartbeats 2000000 in
/-- sort.Sort: a sorted order of the same. -/
theorem sort_any (S : SortI T rv gn gl gs rn rl rs lt n own R RW) (hO : Sort.SWO lt) (hn : n ≤ 255) (d : Array Nat) (w : World) (hR : R d w) :
    Calls Try.prog 51 #[.iface T rv] w fun e w' => e = .returned (.tuple #[]) ∧ ∃ d', GoodS lt 0 n d d' ∧ R d' w' ∧ KeepsB own w w' := by
  have eN := S.en
  have m0 := S.mn _ (S.rw hR)
  have hl := S.len hR
  have hz := S.size hR
  have hq := fun (lim : Nat) (hlim : lim < 1000) (W : World) (h : R d W) => pdqsort_any S hO hn (n + 1) 0 n lim d W h (by omega) (by omega) (Nat.le_refl _) hlim (Or.inl rfl)
  by_cases h1 : n ≤ 1
  · have h1z : (n : Int) ≤ 1 := by omega
    go_enter Try.func51, Try.ntmps51
    go_wp2_with fail
    (with_reducible refine hl.mono ?_)
    rintro e w1 ⟨rfl, hb1⟩
    go_wp2_with fail
    refine bodyPost_ret (results_none rfl _ _ _) rfl ?_
    exact ⟨rfl, d, ⟨Sort.permIn_refl _ _ _, fun i j h2 h3 h4 => by omega⟩, S.below hR hb1, KeepsB.of hb1⟩
  · have h1z : ¬ (n : Int) ≤ 1 := by omega
    have hbl := fun W => bitsLen_any (n : Int) W (by omega) (by omega)
    rw [Int.toNat_natCast] at hbl
    rw [show ((0 : Nat) : Int) = 0 from rfl] at hq
    have hb8 : Lib.bitLen n < 1000 := by
      have := Lib.bitLen_le8' (n : Int) (by omega) (by omega)
      rw [Int.toNat_natCast] at this
      omega
    go_enter Try.func51, Try.ntmps51
    go_wp2_with fail
    (with_reducible refine hl.mono ?_)
    rintro e w1 ⟨rfl, hb1⟩
    go_wp2_with fail
    (with_reducible refine (hbl _).mono ?_)
    rintro e w2 ⟨rfl, rfl⟩
    go_wp2_with fail
    (with_reducible refine (hq _ hb8 _ (S.below hR hb1)).mono ?_)
    rintro e w3 ⟨rfl, d', hd, hR3, hk3⟩
    go_wp2_with fail
    go_end0
    exact ⟨rfl, d', hd, hR3, (KeepsB.of hb1).trans hk3⟩
end
end Go.Proofs.Ytafanlbfbfbeoaa

/- append(s, xs...) where the two slices are of types with different names. -/
namespace Go.Proofs.Ytafanlbfbfbeoaa
open Go.RowKit

theorem run_append_tx {P : Program} (w : World) (t tx ty : TypeId) (e e' : TypeId) (h1 : P.underlying t = some (.slice e)) (h2 : P.underlying tx = some (.slice e')) (args : Array Value) :
    (Builtin.append_ #[t, tx] ty args).run P w = (Builtin.append_ #[t, t] ty args).run P w := by
  unfold Builtin.append_
  simp only [List.getElem?_toArray, List.getElem?_cons_zero, List.getElem?_cons_succ]
  cases args[0]? with
  | none => rfl
  | some s =>
    cases args[1]? with
    | none => rfl
    | some x =>
      simp only [Sem.run_bind, run_underlying h1, Result.andThen_ok]
      cases s <;> try rfl
      simp only [Sem.run_bind]
      congr 1
      funext size w'
      simp only [run_underlying h1, run_underlying h2, Result.andThen_ok, Sem.run_pure]

/-- 'out = append(out, xs...)', the types' names apart. -/
theorem wpList_pushAllT {P : Program} {ops : Array Oper} {rest : List Oper} {o : Oper} {a : Act} {Q : Exit → Act → World → Prop} (hgd : o.guard = none) (s x : Operand) (t tx : TypeId)
    (ho : o.op = .call { callee := .builtin .append, args := #[s, x], argTypes := #[t, tx] }) (e' : TypeId) (htx : P.underlying tx = some (.slice e'))
    (e : TypeId) (i : TypeInfo) (z : Value) (size bytes : Nat) (ht : P.underlying t = some (.slice e)) (hi : P.info? e = some i) (hz : i.zero = some z)
    (hsize : i.size = size) (hby : i.bytes = bytes) (hzs : z.cells.size = size) (hsz : 0 < size) (hbs : bytes ≤ 1000)
    (W w0 : World) (B : Nat) (v : Value) (n : Nat) (xs : List Value) (hs : a.eval s = v) (hown : w0.ownsRow B e size v n xs) (C : Nat) (hbel : Below C W w0) (hCB : C ≤ B) (hBs : B ≤ w0.heap.size) (hn : n ≤ 1000000000)
    (news : List Value) (B' gx m c : Nat) (e2 : TypeId) (hrow : w0.ownsRow B' e2 size (.slice (some ⟨gx, 0, none⟩) m c) m news) (hm : 0 < m) (hm' : m ≤ 1000000000) (hx : a.eval x = .slice (some ⟨gx, 0, none⟩) m c) (h1 : ∀ u ∈ news, u.oneCell' = true) (hCw : C ≤ W.heap.size)
    (h : ∀ g cap w', w'.ownsRow B e size (.slice (some ⟨g, 0, none⟩) (n + m) cap) (n + m) (xs ++ news) → Below C W w' →
      w0.grownBy w' v.ownBlock → (v.ownBlock = some g ∨ g = w0.heap.size) → g < w'.heap.size → wpList P ops Q rest (a.put o.dst (.slice (some ⟨g, 0, none⟩) (n + m) cap)) w') :
    wpList P ops Q (o :: rest) a w0 := by
  refine wpList_plain hgd fun K hK => ?_
  have h2 : (n + m) * bytes ≤ (n + m) * 1000 := Nat.mul_le_mul_left _ hbs
  obtain ⟨g, cap, w', hr, ho1, hg1, hat, hlt⟩ := run_append_lies (P := P) w0 t o.type B e i z size bytes ht hi hz hsize hby hzs hsz v n xs hown ⟨gx, 0, none⟩ m c news hrow.1 (fun j u hj => hrow.cells rfl j u hj) h1 hm (by unfold maxLen; omega) (by omega) hBs w0.heap.size rfl
  unfold Oper.wp execOp
  simp only [ho, resolve, invoke, builtin, Sem.run_bind, Sem.run_pure, Result.andThen_ok, List.map_toArray, List.map_cons, List.map_nil, hs, hx, run_append_tx w0 t tx o.type e e' ht htx, hr]
  exact hK _ _ (h g cap w' ho1 (hbel.grown hg1 (Nat.le_trans hCw hbel.size) fun k hk => Nat.le_trans hCB (hown.lt k hk).1) hg1 hat hlt)
end Go.Proofs.Ytafanlbfbfbeoaa
