/- Slices of slices of points. -/
import Derived.Test.YtafanlbfbfbeoaaSp
namespace Go.Proofs.Ytafanlbfbfbeoaa
open Go.RowKit

theorem Try.info29 : (Try.prog.info? 29).map (fun i => (i.zero, i.size, i.bytes)) = some (some (.slice none 0 0), 1, 24) := by kernel_rfl

/-- A slice of points that a call has made. -/
def RowAt (w : World) (e : TypeId) (enc : Int × Int → List Value) (v : Value) (ps : List (Int × Int)) : Prop :=
  ∃ ao cap, v = .slice ao ps.length cap ∧ w.ownsRow 0 e 2 (.slice ao ps.length cap) ps.length (ps.flatMap enc)

/-- A slice of such. -/
def RowsAt (w : World) (B : Nat) (t e : TypeId) (enc : Int × Int → List Value) (v : Value) (xs : List (Value × List (Int × Int))) : Prop :=
  ∃ ao cap, v = .slice ao xs.length cap ∧ w.ownsRow B t 1 (.slice ao xs.length cap) xs.length (xs.map Prod.fst) ∧ ∀ x ∈ xs, RowAt w e enc x.1 x.2

section
variable {w w' : World} {B B' C : Nat} {t e : TypeId} {enc : Int × Int → List Value} {v : Value} {ps : List (Int × Int)} {xs : List (Value × List (Int × Int))}

theorem RowAt.alloc (h : RowAt w e enc v ps) (o : Obj) : RowAt (w.alloc o) e enc v ps := by
  obtain ⟨ao, cap, hv, ho⟩ := h; exact ⟨ao, cap, hv, ho.alloc _⟩
theorem RowAt.drew (h : RowAt w e enc v ps) : RowAt w.drew e enc v ps := by
  obtain ⟨ao, cap, hv, ho⟩ := h; exact ⟨ao, cap, hv, ho.drew⟩
theorem RowAt.below (h : RowAt w e enc v ps) (hb : Below C w w') (hC : w.heap.size ≤ C) : RowAt w' e enc v ps := by
  obtain ⟨ao, cap, hv, ho⟩ := h; exact ⟨ao, cap, hv, own_below ho hb hC⟩

theorem own_block {g : Nat} {s n : Nat} {zs : List Value} (h : w.ownsRow B e s v n zs) (hg : v.ownBlock = some g) : ∃ cur : Array Value, w.heap[g]? = some (.cells cur e (0, 0)) := by
  rcases h.2 with ⟨hv, _⟩ | ⟨g', cap, cur, hv, _, hgg, _⟩
  · rw [hv] at hg; simp [Value.ownBlock] at hg
  · rw [hv] at hg; simp [Value.ownBlock] at hg; subst hg; exact ⟨cur, hgg⟩

/-- A row is as it was when another row, of another type, has grown. -/
theorem own_grown {s n s' n' : Nat} {u : Value} {zs ys : List Value} (h : w.ownsRow B e s v n zs) (h' : w.ownsRow B' t s' u n' ys) (hne : e ≠ t) (hg : w.grownBy w' u.ownBlock) : w'.ownsRow B e s v n zs := by
  refine ⟨h.1, ?_⟩
  rcases h.2 with hn | ⟨g, cap, cur, hv, hb', hgg, rest⟩
  · exact .inl hn
  · have hlt : g < w.heap.size := by
      rcases Nat.lt_or_ge g w.heap.size with hlt | hge
      · exact hlt
      · rw [Array.getElem?_eq_none hge] at hgg; cases hgg
    refine .inr ⟨g, cap, cur, hv, hb', ?_, rest⟩
    rw [hg.block g hlt]
    · exact hgg
    · intro hh
      obtain ⟨cur', hc'⟩ := own_block h' hh.symm
      rw [hgg] at hc'
      simp at hc'
      exact hne hc'.2

theorem RowAt.grown {s' n' : Nat} {u : Value} {ys : List Value} (h : RowAt w e enc v ps) (h' : w.ownsRow B' t s' u n' ys) (hne : e ≠ t) (hg : w.grownBy w' u.ownBlock) : RowAt w' e enc v ps := by
  obtain ⟨ao, cap, hv, ho⟩ := h; exact ⟨ao, cap, hv, own_grown ho h' hne hg⟩

theorem RowsAt.alloc (h : RowsAt w B t e enc v xs) (o : Obj) : RowsAt (w.alloc o) B t e enc v xs := by
  obtain ⟨ao, cap, hv, ho, hx⟩ := h; exact ⟨ao, cap, hv, ho.alloc _, fun x hm => (hx x hm).alloc _⟩
theorem RowsAt.drew (h : RowsAt w B t e enc v xs) : RowsAt w.drew B t e enc v xs := by
  obtain ⟨ao, cap, hv, ho, hx⟩ := h; exact ⟨ao, cap, hv, ho.drew, fun x hm => (hx x hm).drew⟩
theorem RowsAt.below (h : RowsAt w B t e enc v xs) (hb : Below C w w') (hC : w.heap.size ≤ C) : RowsAt w' B t e enc v xs := by
  obtain ⟨ao, cap, hv, ho, hx⟩ := h; exact ⟨ao, cap, hv, own_below ho hb hC, fun x hm => (hx x hm).below hb hC⟩
theorem RowsAt.mono (h : RowsAt w B t e enc v xs) (hB : B' ≤ B) : RowsAt w B' t e enc v xs := by
  obtain ⟨ao, cap, hv, ho, hx⟩ := h; exact ⟨ao, cap, hv, own_mono ho hB, hx⟩

/-- A slice of slices, read. -/
theorem RowsAt.read (h : RowsAt w B t e enc v xs) : ∃ ao cap g, v = .slice ao xs.length cap ∧ (0 < xs.length → ao = some ⟨g, 0, none⟩ ∧ g < w.heap.size ∧ B ≤ g) ∧
    ∀ k (hk : k < xs.length), ∃ aq cq, xs[k].1 = .slice aq xs[k].2.length cq ∧ w.cell? ⟨g, k, none⟩ = some (.slice aq xs[k].2.length cq) ∧ w.ownsRow 0 e 2 (.slice aq xs[k].2.length cq) xs[k].2.length (xs[k].2.flatMap enc) := by
  obtain ⟨ao, cap, hv, ho, hx⟩ := h
  obtain ⟨g, hg, hc⟩ := vals_read (vs := xs.map Prod.fst) (by rw [List.length_map]; exact ho)
  refine ⟨ao, cap, g, hv, fun h0 => hg (by rw [List.length_map]; exact h0), fun k hk => ?_⟩
  obtain ⟨aq, cq, h1, h2⟩ := hx xs[k] (List.getElem_mem _)
  refine ⟨aq, cq, h1, ?_, h2⟩
  rw [hc k (by rw [List.length_map]; exact hk), List.getElem_map, h1]

/-- A literal of one slice. -/
theorem rows_one {ao : Option Addr} {cap : Nat} (hB : B ≤ w.heap.size) (ho : w.ownsRow B' e 2 (.slice ao ps.length cap) ps.length (ps.flatMap enc)) :
    RowsAt (w.alloc (.cells #[.slice ao ps.length cap] t)) B t e enc (.slice (some ⟨w.heap.size, 0, none⟩) 1 1) [(.slice ao ps.length cap, ps)] := by
  refine ⟨_, 1, rfl, own_new w B hB t 1 1 [_] rfl (by omega), fun x hx => ?_⟩
  rw [List.mem_singleton.1 hx]
  exact ⟨ao, cap, rfl, own_mono (ho.alloc _) (Nat.zero_le _)⟩

/-- A literal of two slices. -/
theorem rows_two {ao ao' : Option Addr} {cap cap' : Nat} {qs : List (Int × Int)} {B2 : Nat} (hB : B ≤ w.heap.size) (ho : w.ownsRow B' e 2 (.slice ao ps.length cap) ps.length (ps.flatMap enc)) (ho' : w.ownsRow B2 e 2 (.slice ao' qs.length cap') qs.length (qs.flatMap enc)) :
    RowsAt (w.alloc (.cells #[.slice ao ps.length cap, .slice ao' qs.length cap'] t)) B t e enc (.slice (some ⟨w.heap.size, 0, none⟩) 2 2) [(.slice ao ps.length cap, ps), (.slice ao' qs.length cap', qs)] := by
  refine ⟨_, 2, rfl, own_new w B hB t 1 2 [_, _] rfl (by omega), fun x hx => ?_⟩
  simp only [List.mem_cons, List.not_mem_nil, or_false] at hx
  rcases hx with rfl | rfl
  · exact ⟨ao, cap, rfl, own_mono (ho.alloc _) (Nat.zero_le _)⟩
  · exact ⟨ao', cap', rfl, own_mono (ho'.alloc _) (Nat.zero_le _)⟩
end
end Go.Proofs.Ytafanlbfbfbeoaa
