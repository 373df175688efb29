/- Polygons, turned ring by ring; points by halves. -/
import Derived.Test.YtafanlbfbfbeoaaRm
import Derived.Test.YtafanlbfbfbeoaaHf
namespace Go.Proofs.Ytafanlbfbfbeoaa
open Go.RowKit

theorem Try.info86 : (Try.prog.info? 86).map (fun i => (i.zero, i.size, i.bytes)) = some (some (.slice none 0 0), 1, 24) := by kernel_rfl
theorem Try.info46 : (Try.prog.info? 46).map (fun i => (i.zero, i.size, i.bytes)) = some (some (.slice none 0 0), 1, 24) := by kernel_rfl

theorem hpts_read {w : World} {B : Nat} {ao : Option Addr} {cap : Nat} {e : TypeId} {ps : List (Int × Int)} (h : w.ownsRow B e 2 (.slice ao ps.length cap) ps.length (ps.flatMap hE)) :
    ∃ g, (0 < ps.length → ao = some ⟨g, 0, none⟩ ∧ g < w.heap.size ∧ B ≤ g) ∧ ∀ k (hk : k < ps.length), w.cell? ⟨g, k * 2, none⟩ = some (.float .f64 (H ps[k].1)) ∧ w.cell? ⟨g, k * 2 + 1, none⟩ = some (.float .f64 (H ps[k].2)) := by
  obtain ⟨g, h1, h2⟩ := row_read_flat hE (fun _ => rfl) ps h
  exact ⟨g, h1, fun k hk => ⟨h2 k hk 0 (by omega), h2 k hk 1 (by omega)⟩⟩

set_option maxRecDepth 100000 in
set_option maxHeartbeats 400000 in
theorem plainRingH_any (ao : Option Addr) (cap : Nat) (ps : List (Int × Int)) (B : Nat) (w : World) (hl : ps.length ≤ 100000000) (h : w.ownsRow B 69 2 (.slice ao ps.length cap) ps.length (ps.flatMap hE)) :
    Calls Try.prog 46 #[.slice ao ps.length cap] w fun e w' => ∃ ao' cap', e = .returned (.slice ao' ps.length cap') ∧ w'.ownsRow w.heap.size 39 2 (.slice ao' ps.length cap') ps.length (ps.flatMap hE) ∧ Below w.heap.size w w' := by
  obtain ⟨i0, hi, hz0, hz1, hz2⟩ := info_parts Try.info39
  obtain ⟨g, hg, hc⟩ := hpts_read h
  clear h
  go_enter Try.func46, Try.ntmps46
  go_wp2
  go_loopw [3, 9] (fun v i wr => ∃ (k : Nat) (ao' : Option Addr) (cap' : Nat), k ≤ ps.length ∧ i = .int .i64 k ∧ v = .slice ao' k cap' ∧ wr.ownsRow w.heap.size 39 2 (.slice ao' k cap') k ((ps.take k).flatMap hE) ∧ Below w.heap.size w wr)
    (fun _ i _ => ps.length - (intOf i).toNat)
  case atStart => exact ⟨0, _, _, Nat.zero_le _, rfl, rfl, own_new w _ (Nat.le_refl _) 39 2 0 [] rfl (by omega), (Below.refl _ _).alloc (Nat.le_refl _) _⟩
  case round =>
    obtain ⟨k, ao', cap', hk, rfl, rfl, hown, hbel⟩ := hrel
    have hsz := hbel.size
    by_cases hlt : k < ps.length
    · obtain ⟨rfl, hgs, _⟩ := hg (by omega)
      obtain ⟨c0, c1⟩ := hc k hlt
      have d0 : wr.cell? ⟨g, k * 2, none⟩ = some (.float .f64 (H ps[k].1)) := (hbel.cell (by exact hgs)).trans c0
      have d1 : wr.cell? ⟨g, k * 2 + 1, none⟩ = some (.float .f64 (H ps[k].2)) := (hbel.cell (by exact hgs)).trans c1
      clear c0 c1 hg hc
      go_wp2_with (at_builtin; refine wpList_push rfl _ _ 43 rfl 39 i0 _ 2 16 Try.underlying43 hi hz0 hz1 hz2 rfl (by decide) (by decide) w _ w.heap.size _ k _ rfl (hown.alloc _) w.heap.size (below_alloc hbel _ (Nat.le_refl _)) (Nat.le_refl _) (by simp; omega) (by omega) [_, _] _ _ (by simp) 1 rfl rfl (by simp [Value.oneCell']) ?_)
      intro g' cap'' w1 hown1 hbel1 _ _ _ _
      have hown2 : w1.ownsRow w.heap.size 39 2 (.slice (some ⟨g', 0, none⟩) (k + 1) cap'') (k + 1) ((ps.take (k + 1)).flatMap hE) := by rw [← take_snoc_flat hE ps k hlt]; exact hown1
      clear hown1 hown d0 d1
      go_wp2
      go_roundw
      case rel => exact ⟨k + 1, _, _, by omega, by go_num, rfl, hown2, hbel1⟩
      case measure => simp [intOf]; omega
    · obtain rfl : k = ps.length := by omega
      rw [List.take_length] at hown
      go_wp2
      go_ret
      exact ⟨_, _, rfl, hown, hbel⟩

set_option maxRecDepth 100000 in
set_option maxHeartbeats 1000000 in
theorem plainRingsH_any (v : Value) (xs : List (Value × List (Int × Int))) (B : Nat) (w : World) (hl : ∀ x ∈ xs, x.2.length ≤ 100000000) (hn : xs.length ≤ 10000000) (h : RowsAt w B 74 69 hE v xs) :
    Calls Try.prog 40 #[v] w fun e w' => ∃ v' ys, e = .returned v' ∧ ys.map Prod.snd = xs.map Prod.snd ∧ RowsAt w' w.heap.size 43 39 hE v' ys ∧ Below w.heap.size w w' ∧ Fresh w.heap.size w'.heap.size ys := by
  obtain ⟨i0, hi, hz0, hz1, hz2⟩ := info_parts Try.info43
  obtain ⟨ao, cap, g, rfl, hg, hc⟩ := h.read
  clear h
  go_enter Try.func40, Try.ntmps40
  go_wp2_with fail
  go_loopw [3, 9] (fun v i wr => ∃ (k : Nat) (ao' : Option Addr) (cap' : Nat) (ys : List (Value × List (Int × Int))), k ≤ xs.length ∧ i = .int .i64 k ∧ v = .slice ao' k cap' ∧ Hid (ys.map Prod.snd = (xs.take k).map Prod.snd ∧ ys.length = k) ∧
      wr.ownsRow w.heap.size 43 1 (.slice ao' k cap') k (ys.map Prod.fst) ∧ (∀ y ∈ ys, RowAt wr 39 hE y.1 y.2) ∧ Below w.heap.size w wr ∧ Fresh w.heap.size wr.heap.size ys)
    (fun _ i _ => xs.length - (intOf i).toNat)
  case atStart => exact ⟨0, _, _, [], Nat.zero_le _, rfl, rfl, ⟨rfl, rfl⟩, own_new _ _ (Nat.le_refl _) 43 1 0 [] rfl (by omega), fun y hy => by simp at hy, (Below.refl _ _).alloc (Nat.le_refl _) _, fun y hy => by simp at hy, .nil⟩
  case round =>
    obtain ⟨k, ao', cap', ys, hk, rfl, rfl, HY, hown, hrow, hbel, hfr⟩ := hrel
    have hsz := hbel.size
    by_cases hlt : k < xs.length
    · obtain ⟨rfl, hgs, _⟩ := hg (by omega)
      obtain ⟨aq, cq, hv, c0, ho⟩ := hc k hlt
      have d0 : wr.cell? ⟨g, k, none⟩ = some (.slice aq xs[k].2.length cq) := (hbel.cell (by exact hgs)).trans c0
      have ho := own_below ho hbel (Nat.le_refl _)
      have hlp := hl xs[k] (List.getElem_mem _)
      obtain ⟨ps, hp⟩ : ∃ ps, ps = xs[k].2 := ⟨_, rfl⟩
      rw [← hp] at d0 ho hlp
      have HP : Hid (ps = xs[k].2) := hp
      clear hp hv c0 hc hg hl
      go_wp2_with fail
      refine (plainRingH_any aq cq ps _ _ hlp ho).mono ?_
      rintro e w1 ⟨a1, c1, rfl, ho1, hb1⟩
      have hown1 := own_below hown hb1 (Nat.le_refl _)
      have hrow1 : ∀ y ∈ ys, RowAt w1 39 hE y.1 y.2 := fun y hm => (hrow y hm).below hb1 (Nat.le_refl _)
      have hbel1 := hbel.trans (hb1.mono hbel.size)
      have hlt1 := ho1.lt
      have hs10 := hb1.size
      have ho1 := own_mono ho1 (Nat.zero_le _)
      have hs1 := hbel1.size
      clear hown hrow d0 ho hb1 hbel
      go_wp2_with (at_builtin; refine wpList_push rfl _ _ 46 rfl 43 i0 _ 1 24 Try.underlying46 hi hz0 hz1 hz2 rfl (by decide) (by decide) w _ w.heap.size _ k _ rfl hown1 w.heap.size hbel1 (Nat.le_refl _) (by omega) (by omega) [_] _ _ (by simp) 1 rfl rfl (by simp [Value.oneCell']) ?_)
      intro g' cap'' w3 hown3 hbel3 hsz3 hgr _ _
      have hfr3 : Fresh w.heap.size w3.heap.size (ys ++ [(Value.slice a1 ps.length c1, ps)]) := hfr.snoc hsz (Nat.le_of_lt hsz3) hs10 hlt1
      have hrow3 : ∀ y ∈ ys ++ [(Value.slice a1 ps.length c1, ps)], RowAt w3 39 hE y.1 y.2 := fun y hm => by
        rcases List.mem_append.1 hm with hm | hm
        · exact ((hrow1 y hm).alloc _).grown (hown1.alloc _) (by decide) hgr
        · rw [List.mem_singleton.1 hm]
          exact ⟨_, _, rfl, own_grown (ho1.alloc _) (hown1.alloc _) (by decide) hgr⟩
      have hown3' : w3.ownsRow w.heap.size 43 1 (.slice (some ⟨g', 0, none⟩) (k + 1) cap'') (k + 1) ((ys ++ [(Value.slice a1 ps.length c1, ps)]).map Prod.fst) := by rw [List.map_append]; exact hown3
      have HY3 : Hid ((ys ++ [(Value.slice a1 ps.length c1, ps)]).map Prod.snd = (xs.take (k + 1)).map Prod.snd ∧ (ys ++ [(Value.slice a1 ps.length c1, ps)]).length = k + 1) := by
        refine ⟨?_, by rw [List.length_append, HY.out.2]; rfl⟩
        rw [List.take_succ_eq_append_getElem hlt, List.map_append, List.map_append, HY.out.1, HP.out]
        rfl
      clear hown3 hgr hown1 hrow1 hfr hlt1
      go_wp2_with fail
      go_roundw
      case rel => exact ⟨k + 1, _, _, _, by omega, by go_num, rfl, HY3, hown3', hrow3, hbel3, hfr3⟩
      case measure => simp [intOf]; omega
    · obtain rfl : k = xs.length := by omega
      have hY2 := HY.out
      rw [List.take_length] at hY2
      go_wp2_with fail
      go_ret
      exact ⟨.slice ao' xs.length cap', ys, rfl, hY2.1, ⟨ao', cap', by rw [hY2.2], by rw [hY2.2]; exact hown, hrow⟩, hbel, hfr⟩

/-- Several slices of slices of points. -/
def PolysAt (w : World) (B : Nat) (t3 t2 e : TypeId) (enc : Int × Int → List Value) (v : Value) (xs : List (Value × List (Value × List (Int × Int)))) : Prop :=
  ∃ ao cap, v = .slice ao xs.length cap ∧ w.ownsRow B t3 1 (.slice ao xs.length cap) xs.length (xs.map Prod.fst) ∧ ∀ x ∈ xs, RowsAt w 0 t2 e enc x.1 x.2

section
variable {w w' : World} {B B' C : Nat} {t3 t t2 e : TypeId} {enc : Int × Int → List Value} {v : Value} {xs : List (Value × List (Value × List (Int × Int)))}
theorem RowsAt.grown {xs : List (Value × List (Int × Int))} {s' n' : Nat} {u : Value} {ys : List Value} (h : RowsAt w B t2 e enc v xs) (h' : w.ownsRow B' t s' u n' ys) (hne : t2 ≠ t) (hne' : e ≠ t) (hg : w.grownBy w' u.ownBlock) : RowsAt w' B t2 e enc v xs := by
  obtain ⟨ao, cap, hv, ho, hx⟩ := h
  exact ⟨ao, cap, hv, own_grown ho h' hne hg, fun x hm => (hx x hm).grown h' hne' hg⟩
theorem PolysAt.alloc (h : PolysAt w B t3 t2 e enc v xs) (o : Obj) : PolysAt (w.alloc o) B t3 t2 e enc v xs := by
  obtain ⟨ao, cap, hv, ho, hx⟩ := h; exact ⟨ao, cap, hv, ho.alloc _, fun x hm => (hx x hm).alloc _⟩
theorem PolysAt.drew (h : PolysAt w B t3 t2 e enc v xs) : PolysAt w.drew B t3 t2 e enc v xs := by
  obtain ⟨ao, cap, hv, ho, hx⟩ := h; exact ⟨ao, cap, hv, ho.drew, fun x hm => (hx x hm).drew⟩
theorem PolysAt.below (h : PolysAt w B t3 t2 e enc v xs) (hb : Below C w w') (hC : w.heap.size ≤ C) : PolysAt w' B t3 t2 e enc v xs := by
  obtain ⟨ao, cap, hv, ho, hx⟩ := h; exact ⟨ao, cap, hv, own_below ho hb hC, fun x hm => (hx x hm).below hb hC⟩
theorem PolysAt.mono (h : PolysAt w B t3 t2 e enc v xs) (hB : B' ≤ B) : PolysAt w B' t3 t2 e enc v xs := by
  obtain ⟨ao, cap, hv, ho, hx⟩ := h; exact ⟨ao, cap, hv, own_mono ho hB, hx⟩

theorem PolysAt.read (h : PolysAt w B t3 t2 e enc v xs) : ∃ ao cap g, v = .slice ao xs.length cap ∧ (0 < xs.length → ao = some ⟨g, 0, none⟩ ∧ g < w.heap.size ∧ B ≤ g) ∧
    ∀ k (hk : k < xs.length), ∃ a2 c2, w.cell? ⟨g, k, none⟩ = some (.slice a2 xs[k].2.length c2) ∧ RowsAt w 0 t2 e enc (.slice a2 xs[k].2.length c2) xs[k].2 := by
  obtain ⟨ao, cap, rfl, ho, hx⟩ := h
  have hl : xs.length = (xs.map Prod.fst).length := by rw [List.length_map]
  obtain ⟨g, hg, hc⟩ := row_read ho
  refine ⟨ao, cap, g, rfl, hg, fun k hk => ?_⟩
  have hr := hx xs[k] (List.getElem_mem hk)
  have hr' := hr
  obtain ⟨a2, c2, hv, _⟩ := hr
  refine ⟨a2, c2, ?_, by rw [← hv]; exact hr'⟩
  have := hc k (by simpa using hk)
  rw [List.getElem?_map, List.getElem?_eq_getElem hk] at this
  rw [← hv]
  simpa using this
end

set_option maxRecDepth 100000 in
set_option maxHeartbeats 1000000 in
theorem plainPolygonsH_any (v : Value) (xs : List (Value × List (Value × List (Int × Int)))) (B : Nat) (w : World) (hl : ∀ x ∈ xs, (∀ y ∈ x.2, y.2.length ≤ 100000000) ∧ x.2.length ≤ 10000000) (hn : xs.length ≤ 10000000) (h : PolysAt w B 86 74 69 hE v xs) :
    Calls Try.prog 26 #[v] w fun e w' => ∃ v' ys, e = .returned v' ∧ ys.map (fun y => y.2.map Prod.snd) = xs.map (fun x => x.2.map Prod.snd) ∧ PolysAt w' w.heap.size 46 43 39 hE v' ys ∧ Below w.heap.size w w' := by
  obtain ⟨i0, hi, hz0, hz1, hz2⟩ := info_parts Try.info46
  obtain ⟨ao, cap, g, rfl, hg, hc⟩ := h.read
  clear h
  go_enter Try.func26, Try.ntmps26
  go_wp2_with fail
  go_loopw [3, 9] (fun v i wr => ∃ (k : Nat) (ao' : Option Addr) (cap' : Nat) (ys : List (Value × List (Value × List (Int × Int)))), k ≤ xs.length ∧ i = .int .i64 k ∧ v = .slice ao' k cap' ∧ Hid (ys.map (fun y => y.2.map Prod.snd) = (xs.take k).map (fun x => x.2.map Prod.snd) ∧ ys.length = k) ∧
      wr.ownsRow w.heap.size 46 1 (.slice ao' k cap') k (ys.map Prod.fst) ∧ (∀ y ∈ ys, RowsAt wr 0 43 39 hE y.1 y.2) ∧ Below w.heap.size w wr)
    (fun _ i _ => xs.length - (intOf i).toNat)
  case atStart => exact ⟨0, _, _, [], Nat.zero_le _, rfl, rfl, ⟨rfl, rfl⟩, own_new _ _ (Nat.le_refl _) 46 1 0 [] rfl (by omega), fun y hy => by simp at hy, (Below.refl _ _).alloc (Nat.le_refl _) _⟩
  case round =>
    obtain ⟨k, ao', cap', ys, hk, rfl, rfl, HY, hown, hrow, hbel⟩ := hrel
    have hsz := hbel.size
    by_cases hlt : k < xs.length
    · obtain ⟨rfl, hgs, _⟩ := hg (by omega)
      obtain ⟨aq, cq, c0, ho⟩ := hc k hlt
      have d0 : wr.cell? ⟨g, k, none⟩ = some (.slice aq xs[k].2.length cq) := (hbel.cell (by exact hgs)).trans c0
      have ho := ho.below hbel (Nat.le_refl _)
      have hlp := hl xs[k] (List.getElem_mem _)
      obtain ⟨ps, hp⟩ : ∃ ps, ps = xs[k].2 := ⟨_, rfl⟩
      rw [← hp] at d0 ho hlp
      have HP : Hid (ps = xs[k].2) := hp
      clear hp c0 hc hg hl
      go_wp2_with fail
      refine (plainRingsH_any _ ps _ _ hlp.1 hlp.2 ho).mono ?_
      rintro e w1 ⟨v1, y1, rfl, hy1, ho1, hb1, _⟩
      have HY1 : Hid (y1.map Prod.snd = ps.map Prod.snd) := hy1
      have ho1' := ho1
      obtain ⟨a1, c1, rfl, hr1, _⟩ := ho1'
      have hown1 := own_below hown hb1 (Nat.le_refl _)
      have hrow1 : ∀ y ∈ ys, RowsAt w1 0 43 39 hE y.1 y.2 := fun y hm => (hrow y hm).below hb1 (Nat.le_refl _)
      have hbel1 := hbel.trans (hb1.mono hbel.size)
      have hs10 := hb1.size
      have ho1 := ho1.mono (B' := 0) (Nat.zero_le _)
      have hs1 := hbel1.size
      clear hown hrow d0 ho hb1 hbel hr1 hy1 hlp
      go_wp2_with (at_builtin; refine wpList_push rfl _ _ 35 rfl 46 i0 _ 1 24 Try.underlying35 hi hz0 hz1 hz2 rfl (by decide) (by decide) w _ w.heap.size _ k _ rfl hown1 w.heap.size hbel1 (Nat.le_refl _) (by omega) (by omega) [_] _ _ (by simp) 1 rfl rfl (by simp [Value.oneCell']) ?_)
      intro g' cap'' w3 hown3 hbel3 hsz3 hgr _ _
      have hrow3 : ∀ y ∈ ys ++ [(Value.slice a1 y1.length c1, y1)], RowsAt w3 0 43 39 hE y.1 y.2 := fun y hm => by
        rcases List.mem_append.1 hm with hm | hm
        · exact ((hrow1 y hm).alloc _).grown (hown1.alloc _) (by decide) (by decide) hgr
        · rw [List.mem_singleton.1 hm]
          exact (ho1.alloc _).grown (hown1.alloc _) (by decide) (by decide) hgr
      have hown3' : w3.ownsRow w.heap.size 46 1 (.slice (some ⟨g', 0, none⟩) (k + 1) cap'') (k + 1) ((ys ++ [(Value.slice a1 y1.length c1, y1)]).map Prod.fst) := by rw [List.map_append]; exact hown3
      have HY3 : Hid ((ys ++ [(Value.slice a1 y1.length c1, y1)]).map (fun y => y.2.map Prod.snd) = (xs.take (k + 1)).map (fun x => x.2.map Prod.snd) ∧ (ys ++ [(Value.slice a1 y1.length c1, y1)]).length = k + 1) := by
        refine ⟨?_, by rw [List.length_append, HY.out.2]; rfl⟩
        rw [List.take_succ_eq_append_getElem hlt, List.map_append, List.map_append, HY.out.1, List.map_singleton, List.map_singleton, HY1.out, HP.out]
      clear hown3 hgr hown1 hrow1
      go_wp2_with fail
      go_roundw
      case rel => exact ⟨k + 1, _, _, _, by omega, by go_num, rfl, HY3, hown3', hrow3, hbel3⟩
      case measure => simp [intOf]; omega
    · obtain rfl : k = xs.length := by omega
      have hY2 := HY.out
      rw [List.take_length] at hY2
      go_wp2_with fail
      go_ret
      exact ⟨.slice ao' xs.length cap', rfl, ys, hY2.1, ⟨ao', cap', by rw [hY2.2], by rw [hY2.2]; exact hown, hrow⟩, hbel⟩
end Go.Proofs.Ytafanlbfbfbeoaa
