/- What the proofs over smartclip lean on, part 3 of 48. -/
import Derived.Test.YtafanlbfbfbeoaaM01
import Derived.Laws.OwnMore
import Derived.Deep.DeepCutAuto
import Derived.Deep.RegionLaw
import Derived.Deep.AppendLies
import Derived.Test.YtafanlbfbfbeoaaM00

/- Points with whole coordinates, read back. -/
namespace Go.Proofs.Ytafanlbfbfbeoaa
open Go.RowKit

set_option maxRecDepth 100000 in
set_option maxHeartbeats 1000000 in
theorem spots_any (ao : Option Addr) (cap : Nat) (ps : List (Int × Int)) (B : Nat) (w : World) (hs : ∀ p ∈ ps, (-100000 < p.1 ∧ p.1 < 100000) ∧ (-100000 < p.2 ∧ p.2 < 100000)) (hl : ps.length ≤ 100000000)
    (h : w.ownsRow B 39 2 (.slice ao ps.length cap) ps.length (ps.flatMap ptE)) :
    Calls Try.prog 17 #[.slice ao ps.length cap] w
      fun e w' => ∃ ao' cap', e = .returned (.tuple #[.slice ao' ps.length cap', .bool true]) ∧
        w'.ownsRow w.heap.size 25 2 (.slice ao' ps.length cap') ps.length (ps.flatMap spotE) ∧ Below w.heap.size w w' := by
  obtain ⟨i0, hi, hz0, hz1, hz2⟩ := info_parts Try.info25
  obtain ⟨g, hg, hc⟩ := pts_read h
  clear h
  go_enter Try.func17, Try.ntmps17
  go_wp2
  go_loopw [4, 11] (fun v i wr => ∃ (k : Nat) (ao' : Option Addr) (cap' : Nat), k ≤ ps.length ∧ i = .int .i64 k ∧ v = .slice ao' k cap' ∧ wr.ownsRow w.heap.size 25 2 (.slice ao' k cap') k ((ps.take k).flatMap spotE) ∧ Below w.heap.size w wr)
    (fun _ i _ => ps.length - (intOf i).toNat)
  case atStart => exact ⟨0, _, _, Nat.zero_le _, rfl, rfl, own_new w _ (Nat.le_refl _) 25 2 0 [] rfl (by omega), (Below.refl _ _).alloc (Nat.le_refl _) _⟩
  case round =>
    obtain ⟨k, ao', cap', hk, rfl, rfl, hown, hbel⟩ := hrel
    have hsz := hbel.size
    by_cases hlt : k < ps.length
    · obtain ⟨rfl, hgs, _⟩ := hg (by omega)
      obtain ⟨c0, c1⟩ := hc k hlt
      have d0 : wr.cell? ⟨g, k * 2, none⟩ = some (.float .f64 (F ps[k].1)) := (hbel.cell (by exact hgs)).trans c0
      have d1 : wr.cell? ⟨g, k * 2 + 1, none⟩ = some (.float .f64 (F ps[k].2)) := (hbel.cell (by exact hgs)).trans c1
      have hps := hs ps[k] (List.getElem_mem _)
      have s0 : Sm ps[k].1 := ⟨by omega, by omega⟩
      have s1 : Sm ps[k].2 := ⟨by omega, by omega⟩
      have sb : Sm 100000 := ⟨by omega, by omega⟩
      have sn : Sm (-100000) := ⟨by omega, by omega⟩
      have t0 : (FloatKind.f64.format.order (F ps[k].1) 13904980397738950656 == some .gt) = true := by rw [F_low, order_F_gt s0 sn]; simp; omega
      have t1 : (FloatKind.f64.format.order (F ps[k].2) 13904980397738950656 == some .gt) = true := by rw [F_low, order_F_gt s1 sn]; simp; omega
      have t2 : (FloatKind.f64.format.order (F ps[k].1) 4681608360884174848 == some .lt) = true := by rw [F_big, order_F_lt s0 sb]; simp; omega
      have t3 : (FloatKind.f64.format.order (F ps[k].2) 4681608360884174848 == some .lt) = true := by rw [F_big, order_F_lt s1 sb]; simp; omega
      clear c0 c1 hg hc sb sn hps
      go_wp2_with (at_builtin; refine wpList_push rfl _ _ 29 rfl 25 i0 _ 2 16 Try.underlying29 hi hz0 hz1 hz2 rfl (by decide) (by decide) w _ w.heap.size _ k _ rfl ((hown.alloc _).alloc _) w.heap.size (below_alloc (below_alloc hbel _ (Nat.le_refl _)) _ (Nat.le_refl _)) (Nat.le_refl _) (by simp; omega) (by omega) [_, _] _ _ (by simp) 1 rfl rfl (by simp [Value.oneCell']) ?_)
      intro g' cap'' w1 hown1 hbel1 _ _ _ _
      have hown2 : w1.ownsRow w.heap.size 25 2 (.slice (some ⟨g', 0, none⟩) (k + 1) cap'') (k + 1) ((ps.take (k + 1)).flatMap spotE) := by rw [← take_snoc_flat spotE ps k hlt]; exact hown1
      clear hown1 hown d0 d1 t0 t1 t2 t3
      go_wp2
      go_roundw
      case rel => exact ⟨k + 1, _, _, by omega, by go_num, rfl, hown2, hbel1⟩
      case measure => simp [intOf]; omega
    · obtain rfl : k = ps.length := by omega
      rw [List.take_length] at hown
      go_wp2
      go_ret2
      exact ⟨_, _, rfl, hown, hbel⟩
end Go.Proofs.Ytafanlbfbfbeoaa

/- Slices of slices of points. -/
namespace Go.Proofs.Ytafanlbfbfbeoaa
open Go.RowKit

theorem Try.info29 : (Try.prog.info? 29).map (fun i => (i.zero, i.size, i.bytes)) = some (some (.slice none 0 0), 1, 24) := by kernel_rfl

/-- A slice of points that a call has made. -/
def RowAt (w : World) (e : TypeId) (enc : Int × Int → List Value) (v : Value) (ps : List (Int × Int)) : Prop :=
  ∃ ao cap, v = .slice ao ps.length cap ∧ w.ownsRow 0 e 2 (.slice ao ps.length cap) ps.length (ps.flatMap enc)

/-- A slice of such. -/
def RowsAt (w : World) (B : Nat) (t e : TypeId) (enc : Int × Int → List Value) (v : Value) (xs : List (Value × List (Int × Int))) : Prop :=
  ∃ ao cap, v = .slice ao xs.length cap ∧ w.ownsRow B t 1 (.slice ao xs.length cap) xs.length (xs.map Prod.fst) ∧ ∀ x ∈ xs, RowAt w e enc x.1 x.2

section
variable {w w' : World} {B B' C : Nat} {t e : TypeId} {enc : Int × Int → List Value} {v : Value} {ps : List (Int × Int)} {xs : List (Value × List (Int × Int))}

theorem RowAt.alloc (h : RowAt w e enc v ps) (o : Obj) : RowAt (w.alloc o) e enc v ps := by
  obtain ⟨ao, cap, hv, ho⟩ := h; exact ⟨ao, cap, hv, ho.alloc _⟩
theorem RowAt.drew (h : RowAt w e enc v ps) : RowAt w.drew e enc v ps := by
  obtain ⟨ao, cap, hv, ho⟩ := h; exact ⟨ao, cap, hv, ho.drew⟩
theorem RowAt.below (h : RowAt w e enc v ps) (hb : Below C w w') (hC : w.heap.size ≤ C) : RowAt w' e enc v ps := by
  obtain ⟨ao, cap, hv, ho⟩ := h; exact ⟨ao, cap, hv, own_below ho hb hC⟩

theorem own_block {g : Nat} {s n : Nat} {zs : List Value} (h : w.ownsRow B e s v n zs) (hg : v.ownBlock = some g) : ∃ cur : Array Value, w.heap[g]? = some (.cells cur e (0, 0)) := by
  rcases h.2 with ⟨hv, _⟩ | ⟨g', cap, cur, hv, _, hgg, _⟩
  · rw [hv] at hg; simp [Value.ownBlock] at hg
  · rw [hv] at hg; simp [Value.ownBlock] at hg; subst hg; exact ⟨cur, hgg⟩

/-- A row is as it was when another row, of another type, has grown. -/
theorem own_grown {s n s' n' : Nat} {u : Value} {zs ys : List Value} (h : w.ownsRow B e s v n zs) (h' : w.ownsRow B' t s' u n' ys) (hne : e ≠ t) (hg : w.grownBy w' u.ownBlock) : w'.ownsRow B e s v n zs := by
  refine ⟨h.1, ?_⟩
  rcases h.2 with hn | ⟨g, cap, cur, hv, hb', hgg, rest⟩
  · exact .inl hn
  · have hlt : g < w.heap.size := by
      rcases Nat.lt_or_ge g w.heap.size with hlt | hge
      · exact hlt
      · rw [Array.getElem?_eq_none hge] at hgg; cases hgg
    refine .inr ⟨g, cap, cur, hv, hb', ?_, rest⟩
    rw [hg.block g hlt]
    · exact hgg
    · intro hh
      obtain ⟨cur', hc'⟩ := own_block h' hh.symm
      rw [hgg] at hc'
      simp at hc'
      exact hne hc'.2

theorem RowAt.grown {s' n' : Nat} {u : Value} {ys : List Value} (h : RowAt w e enc v ps) (h' : w.ownsRow B' t s' u n' ys) (hne : e ≠ t) (hg : w.grownBy w' u.ownBlock) : RowAt w' e enc v ps := by
  obtain ⟨ao, cap, hv, ho⟩ := h; exact ⟨ao, cap, hv, own_grown ho h' hne hg⟩

theorem RowsAt.alloc (h : RowsAt w B t e enc v xs) (o : Obj) : RowsAt (w.alloc o) B t e enc v xs := by
  obtain ⟨ao, cap, hv, ho, hx⟩ := h; exact ⟨ao, cap, hv, ho.alloc _, fun x hm => (hx x hm).alloc _⟩
theorem RowsAt.drew (h : RowsAt w B t e enc v xs) : RowsAt w.drew B t e enc v xs := by
  obtain ⟨ao, cap, hv, ho, hx⟩ := h; exact ⟨ao, cap, hv, ho.drew, fun x hm => (hx x hm).drew⟩
theorem RowsAt.below (h : RowsAt w B t e enc v xs) (hb : Below C w w') (hC : w.heap.size ≤ C) : RowsAt w' B t e enc v xs := by
  obtain ⟨ao, cap, hv, ho, hx⟩ := h; exact ⟨ao, cap, hv, own_below ho hb hC, fun x hm => (hx x hm).below hb hC⟩
theorem RowsAt.mono (h : RowsAt w B t e enc v xs) (hB : B' ≤ B) : RowsAt w B' t e enc v xs := by
  obtain ⟨ao, cap, hv, ho, hx⟩ := h; exact ⟨ao, cap, hv, own_mono ho hB, hx⟩

/-- A slice of slices, read. -/
theorem RowsAt.read (h : RowsAt w B t e enc v xs) : ∃ ao cap g, v = .slice ao xs.length cap ∧ (0 < xs.length → ao = some ⟨g, 0, none⟩ ∧ g < w.heap.size ∧ B ≤ g) ∧
    ∀ k (hk : k < xs.length), ∃ aq cq, xs[k].1 = .slice aq xs[k].2.length cq ∧ w.cell? ⟨g, k, none⟩ = some (.slice aq xs[k].2.length cq) ∧ w.ownsRow 0 e 2 (.slice aq xs[k].2.length cq) xs[k].2.length (xs[k].2.flatMap enc) := by
  obtain ⟨ao, cap, hv, ho, hx⟩ := h
  obtain ⟨g, hg, hc⟩ := vals_read (vs := xs.map Prod.fst) (by rw [List.length_map]; exact ho)
  refine ⟨ao, cap, g, hv, fun h0 => hg (by rw [List.length_map]; exact h0), fun k hk => ?_⟩
  obtain ⟨aq, cq, h1, h2⟩ := hx xs[k] (List.getElem_mem _)
  refine ⟨aq, cq, h1, ?_, h2⟩
  rw [hc k (by rw [List.length_map]; exact hk), List.getElem_map, h1]

/-- A literal of one slice. -/
theorem rows_one {ao : Option Addr} {cap : Nat} (hB : B ≤ w.heap.size) (ho : w.ownsRow B' e 2 (.slice ao ps.length cap) ps.length (ps.flatMap enc)) :
    RowsAt (w.alloc (.cells #[.slice ao ps.length cap] t)) B t e enc (.slice (some ⟨w.heap.size, 0, none⟩) 1 1) [(.slice ao ps.length cap, ps)] := by
  refine ⟨_, 1, rfl, own_new w B hB t 1 1 [_] rfl (by omega), fun x hx => ?_⟩
  rw [List.mem_singleton.1 hx]
  exact ⟨ao, cap, rfl, own_mono (ho.alloc _) (Nat.zero_le _)⟩

/-- A literal of two slices. -/
theorem rows_two {ao ao' : Option Addr} {cap cap' : Nat} {qs : List (Int × Int)} {B2 : Nat} (hB : B ≤ w.heap.size) (ho : w.ownsRow B' e 2 (.slice ao ps.length cap) ps.length (ps.flatMap enc)) (ho' : w.ownsRow B2 e 2 (.slice ao' qs.length cap') qs.length (qs.flatMap enc)) :
    RowsAt (w.alloc (.cells #[.slice ao ps.length cap, .slice ao' qs.length cap'] t)) B t e enc (.slice (some ⟨w.heap.size, 0, none⟩) 2 2) [(.slice ao ps.length cap, ps), (.slice ao' qs.length cap', qs)] := by
  refine ⟨_, 2, rfl, own_new w B hB t 1 2 [_, _] rfl (by omega), fun x hx => ?_⟩
  simp only [List.mem_cons, List.not_mem_nil, or_false] at hx
  rcases hx with rfl | rfl
  · exact ⟨ao, cap, rfl, own_mono (ho.alloc _) (Nat.zero_le _)⟩
  · exact ⟨ao', cap', rfl, own_mono (ho'.alloc _) (Nat.zero_le _)⟩
end
end Go.Proofs.Ytafanlbfbfbeoaa


namespace Go.Proofs.Ytafanlbfbfbeoaa
open Go.RowKit

set_option maxRecDepth 100000 in
set_option maxHeartbeats 400000 in
theorem plainRing_any (ao : Option Addr) (cap : Nat) (ps : List (Int × Int)) (B : Nat) (w : World) (hl : ps.length ≤ 100000000) (h : w.ownsRow B 69 2 (.slice ao ps.length cap) ps.length (ps.flatMap ptE)) :
    Calls Try.prog 46 #[.slice ao ps.length cap] w fun e w' => ∃ ao' cap', e = .returned (.slice ao' ps.length cap') ∧ w'.ownsRow w.heap.size 39 2 (.slice ao' ps.length cap') ps.length (ps.flatMap ptE) ∧ Below w.heap.size w w' := by
  obtain ⟨i0, hi, hz0, hz1, hz2⟩ := info_parts Try.info39
  obtain ⟨g, hg, hc⟩ := pts_read h
  clear h
  go_enter Try.func46, Try.ntmps46
  go_wp2
  go_loopw [3, 9] (fun v i wr => ∃ (k : Nat) (ao' : Option Addr) (cap' : Nat), k ≤ ps.length ∧ i = .int .i64 k ∧ v = .slice ao' k cap' ∧ wr.ownsRow w.heap.size 39 2 (.slice ao' k cap') k ((ps.take k).flatMap ptE) ∧ Below w.heap.size w wr)
    (fun _ i _ => ps.length - (intOf i).toNat)
  case atStart => exact ⟨0, _, _, Nat.zero_le _, rfl, rfl, own_new w _ (Nat.le_refl _) 39 2 0 [] rfl (by omega), (Below.refl _ _).alloc (Nat.le_refl _) _⟩
  case round =>
    obtain ⟨k, ao', cap', hk, rfl, rfl, hown, hbel⟩ := hrel
    have hsz := hbel.size
    by_cases hlt : k < ps.length
    · obtain ⟨rfl, hgs, _⟩ := hg (by omega)
      obtain ⟨c0, c1⟩ := hc k hlt
      have d0 : wr.cell? ⟨g, k * 2, none⟩ = some (.float .f64 (F ps[k].1)) := (hbel.cell (by exact hgs)).trans c0
      have d1 : wr.cell? ⟨g, k * 2 + 1, none⟩ = some (.float .f64 (F ps[k].2)) := (hbel.cell (by exact hgs)).trans c1
      clear c0 c1 hg hc
      go_wp2_with (at_builtin; refine wpList_push rfl _ _ 43 rfl 39 i0 _ 2 16 Try.underlying43 hi hz0 hz1 hz2 rfl (by decide) (by decide) w _ w.heap.size _ k _ rfl (hown.alloc _) w.heap.size (below_alloc hbel _ (Nat.le_refl _)) (Nat.le_refl _) (by simp; omega) (by omega) [_, _] _ _ (by simp) 1 rfl rfl (by simp [Value.oneCell']) ?_)
      intro g' cap'' w1 hown1 hbel1 _ _ _ _
      have hown2 : w1.ownsRow w.heap.size 39 2 (.slice (some ⟨g', 0, none⟩) (k + 1) cap'') (k + 1) ((ps.take (k + 1)).flatMap ptE) := by rw [← take_snoc_flat ptE ps k hlt]; exact hown1
      clear hown1 hown d0 d1
      go_wp2
      go_roundw
      case rel => exact ⟨k + 1, _, _, by omega, by go_num, rfl, hown2, hbel1⟩
      case measure => simp [intOf]; omega
    · obtain rfl : k = ps.length := by omega
      rw [List.take_length] at hown
      go_wp2
      go_ret
      exact ⟨_, _, rfl, hown, hbel⟩
end Go.Proofs.Ytafanlbfbfbeoaa


namespace Go.Proofs.Ytafanlbfbfbeoaa
open Go.RowKit

end Go.Proofs.Ytafanlbfbfbeoaa

/- Slices of slices, turned slice by slice. -/
namespace Go.Proofs.Ytafanlbfbfbeoaa
open Go.RowKit

theorem Try.info74 : (Try.prog.info? 74).map (fun i => (i.zero, i.size, i.bytes)) = some (some (.slice none 0 0), 1, 24) := by kernel_rfl
theorem Try.info100 : (Try.prog.info? 100).map (fun i => (i.zero, i.size, i.bytes)) = some (some (.slice none 0 0), 1, 24) := by kernel_rfl
theorem Try.info43 : (Try.prog.info? 43).map (fun i => (i.zero, i.size, i.bytes)) = some (some (.slice none 0 0), 1, 24) := by kernel_rfl

/-- Slices each of which lies in a block of its own, from B on, below N. -/
def Fresh (B N : Nat) (xs : List (Value × List (Int × Int))) : Prop :=
  (∀ x ∈ xs, ∀ g, x.1.ownBlock = some g → B ≤ g ∧ g < N) ∧ xs.Pairwise fun x y => ∀ g, x.1.ownBlock = some g → y.1.ownBlock ≠ some g

theorem Fresh.snoc {B N M N' : Nat} {xs : List (Value × List (Int × Int))} {y : Value × List (Int × Int)} (h : Fresh B N xs) (hB : B ≤ N) (hM : M ≤ N') (hN : N ≤ M) (hy : ∀ g, y.1.ownBlock = some g → N ≤ g ∧ g < M) : Fresh B N' (xs ++ [y]) := by
  refine ⟨fun x hx g hg => ?_, ?_⟩
  · rcases List.mem_append.1 hx with hx | hx
    · have := h.1 x hx g hg; omega
    · rw [List.mem_singleton.1 hx] at hg
      have := hy g hg; omega
  · rw [List.pairwise_append]
    refine ⟨h.2, by simp, fun x hx z hz g hg hg' => ?_⟩
    rw [List.mem_singleton.1 hz] at hg'
    have h1 := h.1 x hx g hg
    have h2 := hy g hg'
    omega

set_option maxRecDepth 100000 in
set_option maxHeartbeats 1000000 in
theorem polyIn_any (v : Value) (xs : List (Value × List (Int × Int))) (B : Nat) (w : World) (hl : ∀ x ∈ xs, x.2.length ≤ 100000000) (hn : xs.length ≤ 10000000) (h : RowsAt w B 43 39 ptE v xs) :
    Calls Try.prog 38 #[v] w fun e w' => ∃ v' ys, e = .returned v' ∧ ys.map Prod.snd = xs.map Prod.snd ∧ RowsAt w' w.heap.size 74 69 ptE v' ys ∧ Below w.heap.size w w' ∧ Fresh w.heap.size w'.heap.size ys := by
  obtain ⟨i0, hi, hz0, hz1, hz2⟩ := info_parts Try.info74
  obtain ⟨ao, cap, g, rfl, hg, hc⟩ := h.read
  clear h
  go_enter Try.func38, Try.ntmps38
  go_wp2_with fail
  go_loopw [3, 9] (fun v i wr => ∃ (k : Nat) (ao' : Option Addr) (cap' : Nat) (ys : List (Value × List (Int × Int))), k ≤ xs.length ∧ i = .int .i64 k ∧ v = .slice ao' k cap' ∧ Hid (ys.map Prod.snd = (xs.take k).map Prod.snd ∧ ys.length = k) ∧
      wr.ownsRow w.heap.size 74 1 (.slice ao' k cap') k (ys.map Prod.fst) ∧ (∀ y ∈ ys, RowAt wr 69 ptE y.1 y.2) ∧ Below w.heap.size w wr ∧ Fresh w.heap.size wr.heap.size ys)
    (fun _ i _ => xs.length - (intOf i).toNat)
  case atStart => exact ⟨0, _, _, [], Nat.zero_le _, rfl, rfl, ⟨rfl, rfl⟩, own_new _ _ (Nat.le_refl _) 74 1 0 [] rfl (by omega), fun y hy => by simp at hy, (Below.refl _ _).alloc (Nat.le_refl _) _, fun y hy => by simp at hy, .nil⟩
  case round =>
    obtain ⟨k, ao', cap', ys, hk, rfl, rfl, HY, hown, hrow, hbel, hfr⟩ := hrel
    have hsz := hbel.size
    by_cases hlt : k < xs.length
    · obtain ⟨rfl, hgs, _⟩ := hg (by omega)
      obtain ⟨aq, cq, hv, c0, ho⟩ := hc k hlt
      have d0 : wr.cell? ⟨g, k, none⟩ = some (.slice aq xs[k].2.length cq) := (hbel.cell (by exact hgs)).trans c0
      have ho := own_below ho hbel (Nat.le_refl _)
      have hlp := hl xs[k] (List.getElem_mem _)
      obtain ⟨ps, hp⟩ : ∃ ps, ps = xs[k].2 := ⟨_, rfl⟩
      rw [← hp] at d0 ho hlp
      have HP : Hid (ps = xs[k].2) := hp
      clear hp hv c0 hc hg hl
      go_wp2_with fail
      refine (points_any aq cq ps _ _ hlp ho).mono ?_
      rintro e w1 ⟨a1, c1, rfl, ho1, hb1⟩
      have hown1 := own_below hown hb1 (Nat.le_refl _)
      have hrow1 : ∀ y ∈ ys, RowAt w1 69 ptE y.1 y.2 := fun y hm => (hrow y hm).below hb1 (Nat.le_refl _)
      have hbel1 := hbel.trans (hb1.mono hbel.size)
      have hlt1 := ho1.lt
      have hs10 := hb1.size
      have ho1 := own_mono ho1 (Nat.zero_le _)
      have hs1 := hbel1.size
      clear hown hrow d0 ho hb1 hbel
      go_wp2_with (at_builtin; refine wpList_push rfl _ _ 86 rfl 74 i0 _ 1 24 Try.underlying86 hi hz0 hz1 hz2 rfl (by decide) (by decide) w _ w.heap.size _ k _ rfl hown1 w.heap.size hbel1 (Nat.le_refl _) (by omega) (by omega) [_] _ _ (by simp) 1 rfl rfl (by simp [Value.oneCell']) ?_)
      intro g' cap'' w3 hown3 hbel3 hsz3 hgr _ _
      have hfr3 : Fresh w.heap.size w3.heap.size (ys ++ [(Value.slice a1 ps.length c1, ps)]) := hfr.snoc hsz (Nat.le_of_lt hsz3) hs10 hlt1
      have hrow3 : ∀ y ∈ ys ++ [(Value.slice a1 ps.length c1, ps)], RowAt w3 69 ptE y.1 y.2 := fun y hm => by
        rcases List.mem_append.1 hm with hm | hm
        · exact ((hrow1 y hm).alloc _).grown (hown1.alloc _) (by decide) hgr
        · rw [List.mem_singleton.1 hm]
          exact ⟨_, _, rfl, own_grown (ho1.alloc _) (hown1.alloc _) (by decide) hgr⟩
      have hown3' : w3.ownsRow w.heap.size 74 1 (.slice (some ⟨g', 0, none⟩) (k + 1) cap'') (k + 1) ((ys ++ [(Value.slice a1 ps.length c1, ps)]).map Prod.fst) := by rw [List.map_append]; exact hown3
      have HY3 : Hid ((ys ++ [(Value.slice a1 ps.length c1, ps)]).map Prod.snd = (xs.take (k + 1)).map Prod.snd ∧ (ys ++ [(Value.slice a1 ps.length c1, ps)]).length = k + 1) := by
        refine ⟨?_, by rw [List.length_append, HY.out.2]; rfl⟩
        rw [List.take_succ_eq_append_getElem hlt, List.map_append, List.map_append, HY.out.1, HP.out]
        rfl
      clear hown3 hgr hown1 hrow1 hfr hlt1
      go_wp2_with fail
      go_roundw
      case rel => exact ⟨k + 1, _, _, _, by omega, by go_num, rfl, HY3, hown3', hrow3, hbel3, hfr3⟩
      case measure => simp [intOf]; omega
    · obtain rfl : k = xs.length := by omega
      have hY2 := HY.out
      rw [List.take_length] at hY2
      go_wp2_with fail
      go_ret
      exact ⟨.slice ao' xs.length cap', ys, rfl, hY2.1, ⟨ao', cap', by rw [hY2.2], by rw [hY2.2]; exact hown, hrow⟩, hbel, hfr⟩

set_option maxRecDepth 100000 in
set_option maxHeartbeats 1000000 in
theorem plainRings_any (v : Value) (xs : List (Value × List (Int × Int))) (B : Nat) (w : World) (hl : ∀ x ∈ xs, x.2.length ≤ 100000000) (hn : xs.length ≤ 10000000) (h : RowsAt w B 74 69 ptE v xs) :
    Calls Try.prog 40 #[v] w fun e w' => ∃ v' ys, e = .returned v' ∧ ys.map Prod.snd = xs.map Prod.snd ∧ RowsAt w' w.heap.size 43 39 ptE v' ys ∧ Below w.heap.size w w' ∧ Fresh w.heap.size w'.heap.size ys := by
  obtain ⟨i0, hi, hz0, hz1, hz2⟩ := info_parts Try.info43
  obtain ⟨ao, cap, g, rfl, hg, hc⟩ := h.read
  clear h
  go_enter Try.func40, Try.ntmps40
  go_wp2_with fail
  go_loopw [3, 9] (fun v i wr => ∃ (k : Nat) (ao' : Option Addr) (cap' : Nat) (ys : List (Value × List (Int × Int))), k ≤ xs.length ∧ i = .int .i64 k ∧ v = .slice ao' k cap' ∧ Hid (ys.map Prod.snd = (xs.take k).map Prod.snd ∧ ys.length = k) ∧
      wr.ownsRow w.heap.size 43 1 (.slice ao' k cap') k (ys.map Prod.fst) ∧ (∀ y ∈ ys, RowAt wr 39 ptE y.1 y.2) ∧ Below w.heap.size w wr ∧ Fresh w.heap.size wr.heap.size ys)
    (fun _ i _ => xs.length - (intOf i).toNat)
  case atStart => exact ⟨0, _, _, [], Nat.zero_le _, rfl, rfl, ⟨rfl, rfl⟩, own_new _ _ (Nat.le_refl _) 43 1 0 [] rfl (by omega), fun y hy => by simp at hy, (Below.refl _ _).alloc (Nat.le_refl _) _, fun y hy => by simp at hy, .nil⟩
  case round =>
    obtain ⟨k, ao', cap', ys, hk, rfl, rfl, HY, hown, hrow, hbel, hfr⟩ := hrel
    have hsz := hbel.size
    by_cases hlt : k < xs.length
    · obtain ⟨rfl, hgs, _⟩ := hg (by omega)
      obtain ⟨aq, cq, hv, c0, ho⟩ := hc k hlt
      have d0 : wr.cell? ⟨g, k, none⟩ = some (.slice aq xs[k].2.length cq) := (hbel.cell (by exact hgs)).trans c0
      have ho := own_below ho hbel (Nat.le_refl _)
      have hlp := hl xs[k] (List.getElem_mem _)
      obtain ⟨ps, hp⟩ : ∃ ps, ps = xs[k].2 := ⟨_, rfl⟩
      rw [← hp] at d0 ho hlp
      have HP : Hid (ps = xs[k].2) := hp
      clear hp hv c0 hc hg hl
      go_wp2_with fail
      refine (plainRing_any aq cq ps _ _ hlp ho).mono ?_
      rintro e w1 ⟨a1, c1, rfl, ho1, hb1⟩
      have hown1 := own_below hown hb1 (Nat.le_refl _)
      have hrow1 : ∀ y ∈ ys, RowAt w1 39 ptE y.1 y.2 := fun y hm => (hrow y hm).below hb1 (Nat.le_refl _)
      have hbel1 := hbel.trans (hb1.mono hbel.size)
      have hlt1 := ho1.lt
      have hs10 := hb1.size
      have ho1 := own_mono ho1 (Nat.zero_le _)
      have hs1 := hbel1.size
      clear hown hrow d0 ho hb1 hbel
      go_wp2_with (at_builtin; refine wpList_push rfl _ _ 46 rfl 43 i0 _ 1 24 Try.underlying46 hi hz0 hz1 hz2 rfl (by decide) (by decide) w _ w.heap.size _ k _ rfl hown1 w.heap.size hbel1 (Nat.le_refl _) (by omega) (by omega) [_] _ _ (by simp) 1 rfl rfl (by simp [Value.oneCell']) ?_)
      intro g' cap'' w3 hown3 hbel3 hsz3 hgr _ _
      have hfr3 : Fresh w.heap.size w3.heap.size (ys ++ [(Value.slice a1 ps.length c1, ps)]) := hfr.snoc hsz (Nat.le_of_lt hsz3) hs10 hlt1
      have hrow3 : ∀ y ∈ ys ++ [(Value.slice a1 ps.length c1, ps)], RowAt w3 39 ptE y.1 y.2 := fun y hm => by
        rcases List.mem_append.1 hm with hm | hm
        · exact ((hrow1 y hm).alloc _).grown (hown1.alloc _) (by decide) hgr
        · rw [List.mem_singleton.1 hm]
          exact ⟨_, _, rfl, own_grown (ho1.alloc _) (hown1.alloc _) (by decide) hgr⟩
      have hown3' : w3.ownsRow w.heap.size 43 1 (.slice (some ⟨g', 0, none⟩) (k + 1) cap'') (k + 1) ((ys ++ [(Value.slice a1 ps.length c1, ps)]).map Prod.fst) := by rw [List.map_append]; exact hown3
      have HY3 : Hid ((ys ++ [(Value.slice a1 ps.length c1, ps)]).map Prod.snd = (xs.take (k + 1)).map Prod.snd ∧ (ys ++ [(Value.slice a1 ps.length c1, ps)]).length = k + 1) := by
        refine ⟨?_, by rw [List.length_append, HY.out.2]; rfl⟩
        rw [List.take_succ_eq_append_getElem hlt, List.map_append, List.map_append, HY.out.1, HP.out]
        rfl
      clear hown3 hgr hown1 hrow1 hfr hlt1
      go_wp2_with fail
      go_roundw
      case rel => exact ⟨k + 1, _, _, _, by omega, by go_num, rfl, HY3, hown3', hrow3, hbel3, hfr3⟩
      case measure => simp [intOf]; omega
    · obtain rfl : k = xs.length := by omega
      have hY2 := HY.out
      rw [List.take_length] at hY2
      go_wp2_with fail
      go_ret
      exact ⟨.slice ao' xs.length cap', ys, rfl, hY2.1, ⟨ao', cap', by rw [hY2.2], by rw [hY2.2]; exact hown, hrow⟩, hbel, hfr⟩

end Go.Proofs.Ytafanlbfbfbeoaa

/- A point is pushed onto a line of several. -/
namespace Go.Proofs.Ytafanlbfbfbeoaa
open Go.RowKit

/-- A point is laid at the end of one of several lines, or of a new one. -/
def pushL (rows : List (List (Int × Int))) (i : Nat) (p : Int × Int) : List (List (Int × Int)) := (if rows.length ≤ i then rows ++ [[]] else rows).modify i (· ++ [p])

/-- Several lines in memory. -/
structure Lines (w : World) (B : Nat) (v : Value) (xs : List (Value × List (Int × Int))) : Prop where
  rows : RowsAt w B 100 69 ptE v xs
  fresh : Fresh B w.heap.size xs

section
variable {w w2 : World} {B C : Nat} {v : Value} {xs : List (Value × List (Int × Int))}

theorem Lines.alloc (h : Lines w B v xs) (o : Obj) : Lines (w.alloc o) B v xs :=
  ⟨h.rows.alloc o, fun x hx g hg => by have := h.fresh.1 x hx g hg; simp; omega, h.fresh.2⟩
theorem Lines.drew (h : Lines w B v xs) : Lines w.drew B v xs := ⟨h.rows.drew, h.fresh⟩
theorem Lines.below (h : Lines w B v xs) (hb : Below w.heap.size w w2) : Lines w2 B v xs :=
  ⟨h.rows.below hb (Nat.le_refl _), fun x hx g hg => by have := h.fresh.1 x hx g hg; have := hb.size; omega, h.fresh.2⟩
end

theorem row_block' {w : World} {e : TypeId} {enc : Int × Int → List Value} {v : Value} {ps : List (Int × Int)} (h : RowAt w e enc v ps) : ∀ g, v.ownBlock = some g → g < w.heap.size ∧ ∃ cur : Array Value, w.heap[g]? = some (.cells cur e (0, 0)) := by
  obtain ⟨ao, cap, hv, ho⟩ := h
  intro g hg
  rw [hv] at hg
  exact ⟨(ho.lt g hg).2, own_block ho hg⟩

/-- A block is no part of the lines. -/
def Free (v : Value) (xs : List (Value × List (Int × Int))) (k : Nat) : Prop := (∀ x ∈ xs, x.1.ownBlock ≠ some k) ∧ v.ownBlock ≠ some k

/-- A row is as it was, if it does not lie in the row that has grown. -/
theorem own_kept {w w' : World} {B : Nat} {e : TypeId} {s n : Nat} {v : Value} {zs : List Value} {row : Option Nat} (h : w.ownsRow B e s v n zs) (hg : w.grownBy w' row) (hne : ∀ g, v.ownBlock = some g → row ≠ some g) : w'.ownsRow B e s v n zs := by
  refine ⟨h.1, ?_⟩
  rcases h.2 with hn | ⟨g, cap, cur, hv, hb', hgg, rest⟩
  · exact .inl hn
  · have hlt : g < w.heap.size := by
      rcases Nat.lt_or_ge g w.heap.size with hlt | hge
      · exact hlt
      · rw [Array.getElem?_eq_none hge] at hgg; cases hgg
    refine .inr ⟨g, cap, cur, hv, hb', ?_, rest⟩
    rw [hg.block g hlt (fun e => hne g (by rw [hv]; rfl) e.symm)]
    exact hgg

theorem RowAt.kept {w w' : World} {e : TypeId} {enc : Int × Int → List Value} {v : Value} {ps : List (Int × Int)} {row : Option Nat} (h : RowAt w e enc v ps) (hg : w.grownBy w' row) (hne : ∀ g, v.ownBlock = some g → row ≠ some g) : RowAt w' e enc v ps := by
  obtain ⟨ao, cap, rfl, ho⟩ := h; exact ⟨ao, cap, rfl, own_kept ho hg hne⟩

theorem Fresh.set {B N N' : Nat} {xs : List (Value × List (Int × Int))} (h : Fresh B N xs) (hB : B ≤ N) (hN : N ≤ N') {i : Nat} (hi : i < xs.length) {u : Value} {qs : List (Int × Int)} (hu : ∀ g, u.ownBlock = some g → (xs[i].1.ownBlock = some g ∨ N ≤ g) ∧ g < N') : Fresh B N' (xs.set i (u, qs)) := by
  constructor
  · intro x hx g hg
    obtain ⟨j, hj, rfl⟩ := List.mem_iff_getElem.1 hx
    rw [List.length_set] at hj
    rw [List.getElem_set] at hg
    split at hg
    · obtain ⟨h1, h2⟩ := hu g hg
      rcases h1 with h1 | h1
      · have := h.1 _ (List.getElem_mem hi) g h1; omega
      · omega
    · have := h.1 _ (List.getElem_mem hj) g hg; omega
  · rw [List.pairwise_iff_getElem]
    intro j k hj hk hjk g hg hg'
    rw [List.length_set] at hj hk
    have hp := List.pairwise_iff_getElem.1 h.2
    rw [List.getElem_set] at hg hg'
    split at hg
    · rename_i e
      subst e
      rw [if_neg (by omega)] at hg'
      rcases (hu g hg).1 with h1 | h1
      · exact hp _ _ hi hk hjk g h1 hg'
      · have := h.1 _ (List.getElem_mem hk) g hg'; omega
    · split at hg'
      · rename_i e
        subst e
        rcases (hu g hg').1 with h1 | h1
        · exact hp _ _ hj hi hjk g hg h1
        · have := h.1 _ (List.getElem_mem hj) g hg; omega
      · exact hp _ _ hj hk hjk g hg hg'

theorem modify_set {α : Type} (l : List α) (i : Nat) (hi : i < l.length) (f : α → α) : l.modify i f = l.set i (f l[i]) := by
  apply List.ext_getElem
  · simp
  · intro j h1 h2
    rw [List.getElem_modify, List.getElem_set]
    split
    · rename_i e; subst e; rfl
    · rfl

set_option maxRecDepth 100000 in
set_option maxHeartbeats 2000000 in
theorem push_any (i : Nat) (p : Int × Int) (v : Value) (xs : List (Value × List (Int × Int))) (B : Nat) (w : World) (hB : B ≤ w.heap.size) (hi1 : i ≤ xs.length) (hi2 : xs.length ≤ i + 1) (hil : i ≤ 10000) (hxl : ∀ x ∈ xs, x.2.length ≤ 100000) (h : Lines w B v xs) :
    Calls Try.prog 66 #[v, .int .i64 i, .agg #[.float .f64 (F p.1), .float .f64 (F p.2)]] w
      fun e w' => ∃ v' ys, e = .returned v' ∧ ys.map Prod.snd = pushL (xs.map Prod.snd) i p ∧ Lines w' B v' ys ∧ Below B w w' ∧ ∀ k, k < w.heap.size → Free v xs k → w'.heap[k]? = w.heap[k]? ∧ Free v' ys k := by
  obtain ⟨i0, hi, hz0, hz1, hz2⟩ := info_parts Try.info100
  obtain ⟨i1, hj, hy0, hy1, hy2⟩ := info_parts Try.info69
  obtain ⟨⟨ao, cap, rfl, ho, hrow⟩, hfr⟩ := h
  go_enter Try.func66, Try.ntmps66
  go_upto_if 10 with fail
  go_cut [0] (fun v1 wc => ∃ ys, Hid (ys.map Prod.snd = if (xs.map Prod.snd).length ≤ i then xs.map Prod.snd ++ [[]] else xs.map Prod.snd) ∧ ys.length = i + 1 ∧ Lines wc B v1 ys ∧ Below B w wc ∧ Blk wc w.heap.size #[.float .f64 (F p.1), .float .f64 (F p.2)] 69 ∧ (∀ y ∈ ys, y.1.ownBlock ≠ some w.heap.size) ∧ v1.ownBlock ≠ some w.heap.size ∧ ∀ k, k < w.heap.size → Free (.slice ao xs.length cap) xs k → wc.heap[k]? = w.heap[k]? ∧ Free v1 ys k)
  case first =>
    by_cases hlt : i < xs.length
    · go_wp2_with fail
      go_meet
      refine ⟨xs, (by show _ = _; rw [List.length_map, if_neg (by omega)]), by omega, (Lines.mk ⟨ao, cap, rfl, ho, hrow⟩ hfr).alloc _, (Below.refl _ _).alloc hB _, Blk.new _ _ _, fun y hy hh => ?_, fun hh => ?_, fun k hk hF => ⟨Below.heap_alloc w _ k hk, hF⟩⟩
      · have := hfr.1 y hy _ hh; omega
      · have := (ho.lt _ hh).2; omega
    · obtain rfl : i = xs.length := by omega
      go_wp2_with (at_builtin; refine wpList_push rfl _ _ 98 rfl 100 i0 _ 1 24 Try.underlying98 hi hz0 hz1 hz2 rfl (by decide) (by decide) w _ B _ xs.length _ rfl ((ho.alloc _).alloc _) B (((Below.refl _ _).alloc hB _).alloc (by simp; omega) _) (Nat.le_refl _) (by simp; omega) (by omega) [_] _ _ (by simp) 1 rfl rfl (by simp [Value.oneCell']) ?_)
      intro g' cap'' w3 hown3 hbel3 hsz3 hgr hat hg3
      go_wp2_with fail
      go_meet
      have hown0 := (((ho.alloc (.cells #[.float .f64 (F p.1), .float .f64 (F p.2)] 69)).alloc (.cells #[] 69)).alloc (.cells #[.slice (some ⟨w.heap.size + 1, 0, none⟩) 0 0] 100))
      have hemp : ((w.alloc (.cells #[.float .f64 (F p.1), .float .f64 (F p.2)] 69)).alloc (.cells #[] 69)).ownsRow 0 69 2 (.slice (some ⟨w.heap.size + 1, 0, none⟩) 0 0) 0 [] := by
        have := own_new (w.alloc (.cells #[.float .f64 (F p.1), .float .f64 (F p.2)] 69)) 0 (Nat.zero_le _) 69 2 0 [] rfl (by omega)
        rw [World.size_alloc] at this
        exact this
      have hb0 : ∀ g, (Value.slice ao xs.length cap).ownBlock = some g → g < w.heap.size := fun g hg => (ho.lt g hg).2
      refine ⟨xs ++ [(.slice (some ⟨w.heap.size + 1, 0, none⟩) 0 0, [])], (by show _ = _; rw [List.length_map, if_pos (Nat.le_refl _), List.map_append]; rfl), (by simp), ⟨⟨_, _, (by rw [List.length_append]; rfl), (by rw [List.length_append, List.map_append]; exact hown3), fun y hy => ?_⟩, ?_⟩, hbel3, ?_, fun y hy hh => ?_, fun hh => ?_, fun k hk hF => ⟨?_, fun y hy hh => ?_, fun hh => ?_⟩⟩
      · rcases List.mem_append.1 hy with hy | hy
        · exact ((((hrow y hy).alloc _).alloc _).alloc _).grown hown0 (by decide) hgr
        · rw [List.mem_singleton.1 hy]
          exact ⟨_, _, rfl, own_grown (hemp.alloc _) hown0 (by decide) hgr⟩
      · refine hfr.snoc hB (M := w.heap.size + 2) (by omega) (by omega) fun g hg => ?_
        have hg : w.heap.size + 1 = g := by simpa [Value.ownBlock] using hg
        omega
      · exact (((Blk.new w _ _).alloc _).alloc _).grown hgr fun e => by have := hb0 _ e.symm; omega
      · rcases List.mem_append.1 hy with hy | hy
        · have := hfr.1 y hy _ hh; omega
        · rw [List.mem_singleton.1 hy] at hh
          simp [Value.ownBlock] at hh
      · have hh : g' = w.heap.size := by simpa [Value.ownBlock] using hh
        rcases hat with e | e
        · have := hb0 _ e; omega
        · omega
      · have hsz0 : ((w.alloc (.cells #[.float .f64 (F p.1), .float .f64 (F p.2)] 69)).alloc (.cells #[] 69)).heap.size = w.heap.size + 2 := by rw [World.size_alloc, World.size_alloc]
        rw [hgr.block k (by rw [World.size_alloc, hsz0]; omega) (fun e => hF.2 e.symm), Below.heap_alloc _ _ k (by rw [hsz0]; omega), Below.heap_alloc _ _ k (by rw [World.size_alloc]; omega), Below.heap_alloc w _ k hk]
      · rcases List.mem_append.1 hy with hy | hy
        · exact hF.1 y hy hh
        · rw [List.mem_singleton.1 hy] at hh
          have hh : w.heap.size + 1 = k := by simpa [Value.ownBlock] using hh
          omega
      · have hh : g' = k := by simpa [Value.ownBlock] using hh
        rcases hat with e | e
        · exact hF.2 (by rw [e, hh])
        · omega
  case rest =>
    obtain ⟨ys, HY, hyl, hln, hbel, hbox, hne, hne2, hfree⟩ := hcut
    obtain ⟨ao1, cap1, gO, rfl, hgO, hrd⟩ := hln.rows.read
    obtain ⟨ao2, cap2, hv2, ho1, hrow1⟩ := hln.rows
    have hfr1 := hln.fresh
    cases hv2
    clear hln
    obtain ⟨rfl, hgs, hgB⟩ := hgO (by omega)
    obtain ⟨aq, cq, hv, c0, hq⟩ := hrd i (by omega)
    obtain ⟨ps, hps⟩ : ∃ ps, ps = (ys[i]'(by omega)).2 := ⟨_, rfl⟩
    rw [← hps] at hv c0 hq
    have HP : Hid (ps = (ys[i]'(by omega)).2 ∧ (ys[i]'(by omega)).1 = .slice aq ps.length cq) := ⟨hps, hv⟩
    clear hgO hrd hps hv
    obtain ⟨wr, rfl⟩ : ∃ wr, wr = wc := ⟨_, rfl⟩
    have e0 : wr.cell? ⟨w.heap.size, 0, none⟩ = some (.float .f64 (F p.1)) := hbox.cell 0
    have e1 : wr.cell? ⟨w.heap.size, 1, none⟩ = some (.float .f64 (F p.2)) := hbox.cell 1
    have a0 : ∀ o, (wr.alloc o).cell? ⟨w.heap.size, 0, none⟩ = some (.float .f64 (F p.1)) := fun o => (hbox.alloc o).cell 0
    have a1 : ∀ o, (wr.alloc o).cell? ⟨w.heap.size, 1, none⟩ = some (.float .f64 (F p.2)) := fun o => (hbox.alloc o).cell 1
    have a2 : ∀ o, (wr.alloc o).cell? ⟨gO, i, none⟩ = some (.slice aq ps.length cq) := fun o => by rw [World.cell?_alloc_past _ _ _ hgs]; exact c0
    have hpl : ps.length ≤ 200000 := by
      have hm : ps ∈ ys.map Prod.snd := by rw [HP.out.1]; exact List.mem_map_of_mem (List.getElem_mem _)
      rw [HY.out] at hm
      have hold : ps ∈ xs.map Prod.snd → ps.length ≤ 200000 := fun h => by
        obtain ⟨x, hx, e⟩ := List.mem_map.1 h
        have := hxl x hx
        rw [e] at this; omega
      split at hm
      · rcases List.mem_append.1 hm with h | h
        · exact hold h
        · rw [List.mem_singleton.1 h]; simp
      · exact hold hm
    have hbl := hbox.lt
    have hgne : some gO ≠ (Value.slice aq ps.length cq).ownBlock := fun e => by
      obtain ⟨_, hc1⟩ := own_block ho1 rfl
      obtain ⟨_, hc2⟩ := own_block hq e.symm
      rw [hc1] at hc2
      simp at hc2
    have hii : (i : Int) < (i : Int) + 1 := by omega
    go_upto_region 3 with fail
    go_region_law ((refine step_append_lies _ rfl (.tmp 20) (.tmp 22) 100 rfl 0 69 i1 _ 2 16 Try.underlying100 hj hy0 hy1 hy2 rfl (by decide) (.slice aq ps.length cq) ps.length (ps.flatMap ptE) (by simp [Act.eval]) (hq.alloc _).drew _ 1 1 [.float .f64 (F p.1), .float .f64 (F p.2)] (by simp [Act.eval]) rfl (World.news_of_block (heap_alloc_new wr _)) (by simp [Value.oneCell']) (by decide) (by unfold maxLen; omega) (by omega) (Nat.zero_le _) _ rfl ?_; intro g2 cap2 w2 hown2 hgr2 hat2 hlt2; have ho2 := own_grown (ho1.alloc (.cells #[.float .f64 (F p.1), .float .f64 (F p.2)] 69)).drew (hq.alloc (.cells #[.float .f64 (F p.1), .float .f64 (F p.2)] 69)).drew (by decide) hgr2; have hfz2 := ho2.frozenAt i; have hce2 := hgr2.cell (a := ⟨gO, i, none⟩) (a2 _) hgne))
    all_goals
      go_wp2_with fail
      go_ret
      obtain ⟨st1, st2⟩ := ho2.stored i (.slice (some ⟨g2, 0, none⟩) (ps.length + 1) cap2)
      have hiy : i < ys.length := by omega
      have hsz := hgr2.size
      have hsz : wr.heap.size + 1 ≤ w2.heap.size := by simpa using hgr2.size
      have hBr := hbel.size
      have hkk : (wr.alloc (.cells #[.float .f64 (F p.1), .float .f64 (F p.2)] 69)).drew.heap.size = wr.heap.size + 1 := by
        show (wr.alloc _).heap.size = _
        rw [World.size_alloc]
      have hown2' : w2.ownsRow 0 69 2 (.slice (some ⟨g2, 0, none⟩) (ps.length + 1) cap2) (ps.length + 1) ((ps ++ [p]).flatMap ptE) := by rw [List.flatMap_append]; simpa [ptE] using hown2
      have hgty : ∀ (v : Value) (qs : List (Int × Int)), RowAt w2 69 ptE v qs → v.ownBlock ≠ some gO := fun v qs hr e => by
        obtain ⟨_, hc1⟩ := own_block ho2 rfl
        obtain ⟨_, _, hc2⟩ := row_block' hr _ e
        rw [hc1] at hc2
        simp at hc2
      have hset : ∀ (v : Value) (qs : List (Int × Int)), RowAt w2 69 ptE v qs → RowAt (w2.setCell ⟨gO, i, none⟩ (.slice (some ⟨g2, 0, none⟩) (ps.length + 1) cap2)) 69 ptE v qs := fun v qs hr =>
        hr.kept st2 fun g hg e => hgty v qs hr (by rw [hg, e])
      have hnew : RowAt w2 69 ptE (.slice (some ⟨g2, 0, none⟩) (ps.length + 1) cap2) (ps ++ [p]) := ⟨_, _, by rw [List.length_append]; rfl, by rw [List.length_append]; exact hown2'⟩
      have hpw := List.pairwise_iff_getElem.1 hfr1.2
      refine ⟨.slice (some ⟨gO, 0, none⟩) (i + 1) cap1, rfl, ys.set i (.slice (some ⟨g2, 0, none⟩) (ps.length + 1) cap2, ps ++ [p]), ?_, ⟨⟨_, _, by rw [List.length_set, hyl], ?_, fun y hy => ?_⟩, ?_⟩, ?_, fun k hk hF => ?_⟩
      · unfold pushL
        rw [← HY.out, List.map_set, modify_set _ _ (by rw [List.length_map]; exact hiy), List.getElem_map, ← HP.out.1]
      · rw [hyl] at st1
        simp only [List.length_set, List.map_set, hyl]
        exact st1
      · obtain ⟨j, hj, rfl⟩ := List.mem_iff_getElem.1 hy
        rw [List.length_set] at hj
        rw [List.getElem_set]
        split
        · exact hset _ _ hnew
        · rename_i hij
          refine hset _ _ ((((hrow1 _ (List.getElem_mem hj)).alloc _).drew).kept hgr2 fun g hg e => ?_)
          rw [← HP.out.2] at e
          rcases Nat.lt_or_gt_of_ne hij with h | h
          · exact hpw i j hiy hj h g e hg
          · exact hpw j i hj hiy h g hg e
      · refine hfr1.set (Nat.le_trans hB hBr) (by simp; omega) hiy fun g hg => ?_
        have hg : g2 = g := by simpa [Value.ownBlock] using hg
        subst hg
        refine ⟨?_, by simpa using hlt2⟩
        rcases hat2 with e | e
        · left; rw [HP.out.2]; exact e
        · right; omega
      · refine Below.setCell (Below.grown ((hbel.alloc (Nat.le_trans hB hBr) _).drew) hgr2 ?_ ?_) (by exact hgB) _
        · have e : wr.heap.size ≤ (wr.alloc (.cells #[.float .f64 (F p.1), .float .f64 (F p.2)] 69)).drew.heap.size := by
            show wr.heap.size ≤ (wr.alloc _).heap.size
            rw [World.size_alloc]; omega
          omega
        · intro k hk
          have := hfr1.1 _ (List.getElem_mem hiy) k (by rw [HP.out.2]; exact hk)
          exact this.1
      · obtain ⟨hk1, hk2⟩ := hfree k hk hF
        have hqk : (Value.slice aq ps.length cq).ownBlock ≠ some k := by rw [← HP.out.2]; exact hk2.1 _ (List.getElem_mem hiy)
        have hgk : gO ≠ k := fun e => hk2.2 (by rw [e]; rfl)
        refine ⟨?_, fun y hy hh => ?_, fun hh => hk2.2 hh⟩
        · rw [Below.heap_setCell _ _ _ k (by exact Ne.symm hgk), hgr2.block k (by rw [hkk]; omega) (fun e => hqk e.symm)]
          exact (Below.heap_alloc wr _ k (by omega)).trans hk1
        · obtain ⟨j, hj, rfl⟩ := List.mem_iff_getElem.1 hy
          rw [List.length_set] at hj
          rw [List.getElem_set] at hh
          split at hh
          · have hh : g2 = k := by simpa [Value.ownBlock] using hh
            rcases hat2 with e | e
            · exact hqk (by rw [e, hh])
            · omega
          · exact hk2.1 _ (List.getElem_mem hj) hh
end Go.Proofs.Ytafanlbfbfbeoaa

/- The point at which a line crosses a side of the box; where a point lies. -/
namespace Go.Proofs.Ytafanlbfbfbeoaa
open Go.RowKit Ieee

theorem read_write_rep {r : Datum} {n : Int} (h : Rep 0 r n) (hn : n.natAbs < 2 ^ 53) : Rep 0 (Ieee.double.read (Ieee.double.write r)) n := by
  by_cases hz : n = 0
  · subst hz
    obtain ⟨g, m, i, rfl, hi, hv⟩ := h
    have va := rep_val (s := 0) (n := 0) ⟨g, m, i, rfl, hi, hv⟩
    obtain ⟨_, sz, _⟩ := sign_of_mul va.2
    have hm : m = 0 := by cases g <;> simp at sz <;> omega
    subst hm
    have e : Ieee.double.write (.number g 0 i) = Ieee.double.word g 0 := by simp [Format.write, Format.nearest]
    rw [e]
    cases g
    · have : Ieee.double.read (Ieee.double.word false 0) = .number false 0 (-1074) := by decide
      rw [this]; exact rep_iff _ _ _ _ _ (by omega) (by simp only [Int.natCast_zero, ite_self, Int.neg_zero, Int.zero_mul, Bool.false_eq_true])
    · have : Ieee.double.read (Ieee.double.word true 0) = .number true 0 (-1074) := by decide
      rw [this]; exact rep_iff _ _ _ _ _ (by omega) (by simp only [Int.natCast_zero, ite_self, Int.neg_zero, Int.zero_mul])
  · rw [write_rep (by omega) ⟨h, fun e => absurd e hz⟩ hn]
    exact (read_rep 0 n (by omega) hn).1

theorem mul_small {a b : Int} (ha : Sm a) (hb : Sm b) : (a * b).natAbs < 2 ^ 53 := by
  rw [Int.natAbs_mul]
  have h1 : a.natAbs ≤ 1000000 := by have := ha.1; have := ha.2; omega
  have h2 : b.natAbs ≤ 1000000 := by have := hb.1; have := hb.2; omega
  exact Nat.lt_of_le_of_lt (Nat.mul_le_mul h1 h2) (by decide)

theorem isect_float {x a b c q : Int} (hx : Sm x) (ha : Sm a) (hb : Sm b) (hc : Sm c) (hc0 : c ≠ 0) (hq : a * b = q * c) (hq1 : Sm q) (hq' : Sm (x + q)) :
    ∃ m d, FloatKind.f64.format.mul (F a) (F b) = some m ∧ FloatKind.f64.format.div m (F c) = some d ∧ FloatKind.f64.format.add (F x) d = some (F (x + q)) := by
  have hab := mul_small ha hb
  obtain ⟨r, hr, hp⟩ := rep_product (read_F ha.abs).1 (read_F hb.abs).1
  have hp0 : Rep 0 r (a * b) := hp
  have hp1 := read_write_rep hp0 hab
  obtain ⟨r2, hr2, hp2⟩ := rep_quotient (s := 0) (s' := 0) (q := q) (b := c) (by rw [← hq]; exact hp1) (read_F hc.abs).1 hc0 (by rw [← hq]; exact hab) hc.abs
  have hp3 := read_write_rep hp2 hq1.abs
  obtain ⟨r3, hr3, hp4⟩ := rep_sum (read_F hx.abs) hp3
  refine ⟨Ieee.double.write r, Ieee.double.write r2, ?_, ?_, ?_⟩
  · show ((Ieee.double.read (F a)).product (Ieee.double.read (F b))).map Ieee.double.write = _
    rw [hr]; rfl
  · show ((Ieee.double.read (Ieee.double.write r)).quotient 54 (Ieee.double.read (F c))).map Ieee.double.write = _
    rw [hr2]; rfl
  · show ((Ieee.double.read (F x)).sum (Ieee.double.read (Ieee.double.write r2))).map Ieee.double.write = _
    rw [hr3, Option.map_some, write_rep (by omega) hp4 hq'.abs]
    rfl

/-- Where a point lies to a box. -/
def codeI (lx ly hx hy x y : Int) : Int := (if x < lx then 1 else if hx < x then 2 else 0) + (if y < ly then 4 else if hy < y then 8 else 0)

set_option maxRecDepth 100000 in
set_option maxHeartbeats 1000000 in
theorem bitCode_any (lx ly hx hy x y : Int) (h1 : Sm lx) (h2 : Sm ly) (h3 : Sm hx) (h4 : Sm hy) (h5 : Sm x) (h6 : Sm y) (w : World) :
    Calls Try.prog 65 #[.agg #[.float .f64 (F lx), .float .f64 (F ly), .float .f64 (F hx), .float .f64 (F hy)], .agg #[.float .f64 (F x), .float .f64 (F y)]] w
      fun e w' => e = .returned (.int .i64 (codeI lx ly hx hy x y)) ∧ Below w.heap.size w w' := by
  go_enter Try.func65, Try.ntmps65
  go_wp2
  all_goals
    go_ret
    refine ⟨ret_int ?_, ((Below.refl _ _).alloc (Nat.le_refl _) _).alloc (by simp) _⟩
    unfold codeI
    have e1 : bits .or .i64 0 1 = 1 := by decide
    have e2 : bits .or .i64 0 2 = 2 := by decide
    have e3 : bits .or .i64 0 4 = 4 := by decide
    have e4 : bits .or .i64 0 8 = 8 := by decide
    have e5 : bits .or .i64 1 4 = 5 := by decide
    have e6 : bits .or .i64 1 8 = 9 := by decide
    have e7 : bits .or .i64 2 4 = 6 := by decide
    have e8 : bits .or .i64 2 8 = 10 := by decide
    try simp only [e1, e2, e3, e4, e5, e6, e7, e8]
    (repeat' split) <;> omega
end Go.Proofs.Ytafanlbfbfbeoaa
