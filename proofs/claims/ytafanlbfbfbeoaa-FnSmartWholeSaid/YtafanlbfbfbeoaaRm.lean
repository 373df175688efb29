/- Slices of slices, turned slice by slice. -/
import Derived.Test.YtafanlbfbfbeoaaRa
import Derived.Test.YtafanlbfbfbeoaaPlr
import Derived.Test.YtafanlbfbfbeoaaPll
namespace Go.Proofs.Ytafanlbfbfbeoaa
open Go.RowKit

theorem Try.info74 : (Try.prog.info? 74).map (fun i => (i.zero, i.size, i.bytes)) = some (some (.slice none 0 0), 1, 24) := by kernel_rfl
theorem Try.info100 : (Try.prog.info? 100).map (fun i => (i.zero, i.size, i.bytes)) = some (some (.slice none 0 0), 1, 24) := by kernel_rfl
theorem Try.info43 : (Try.prog.info? 43).map (fun i => (i.zero, i.size, i.bytes)) = some (some (.slice none 0 0), 1, 24) := by kernel_rfl

/-- Slices each of which lies in a block of its own, from B on, below N. -/
def Fresh (B N : Nat) (xs : List (Value × List (Int × Int))) : Prop :=
  (∀ x ∈ xs, ∀ g, x.1.ownBlock = some g → B ≤ g ∧ g < N) ∧ xs.Pairwise fun x y => ∀ g, x.1.ownBlock = some g → y.1.ownBlock ≠ some g

theorem Fresh.snoc {B N M N' : Nat} {xs : List (Value × List (Int × Int))} {y : Value × List (Int × Int)} (h : Fresh B N xs) (hB : B ≤ N) (hM : M ≤ N') (hN : N ≤ M) (hy : ∀ g, y.1.ownBlock = some g → N ≤ g ∧ g < M) : Fresh B N' (xs ++ [y]) := by
  refine ⟨fun x hx g hg => ?_, ?_⟩
  · rcases List.mem_append.1 hx with hx | hx
    · have := h.1 x hx g hg; omega
    · rw [List.mem_singleton.1 hx] at hg
      have := hy g hg; omega
  · rw [List.pairwise_append]
    refine ⟨h.2, by simp, fun x hx z hz g hg hg' => ?_⟩
    rw [List.mem_singleton.1 hz] at hg'
    have h1 := h.1 x hx g hg
    have h2 := hy g hg'
    omega

set_option maxRecDepth 100000 in
set_option maxHeartbeats 1000000 in
theorem polyIn_any (v : Value) (xs : List (Value × List (Int × Int))) (B : Nat) (w : World) (hl : ∀ x ∈ xs, x.2.length ≤ 100000000) (hn : xs.length ≤ 10000000) (h : RowsAt w B 43 39 ptE v xs) :
    Calls Try.prog 38 #[v] w fun e w' => ∃ v' ys, e = .returned v' ∧ ys.map Prod.snd = xs.map Prod.snd ∧ RowsAt w' w.heap.size 74 69 ptE v' ys ∧ Below w.heap.size w w' ∧ Fresh w.heap.size w'.heap.size ys := by
  obtain ⟨i0, hi, hz0, hz1, hz2⟩ := info_parts Try.info74
  obtain ⟨ao, cap, g, rfl, hg, hc⟩ := h.read
  clear h
  go_enter Try.func38, Try.ntmps38
  go_wp2_with fail
  go_loopw [3, 9] (fun v i wr => ∃ (k : Nat) (ao' : Option Addr) (cap' : Nat) (ys : List (Value × List (Int × Int))), k ≤ xs.length ∧ i = .int .i64 k ∧ v = .slice ao' k cap' ∧ Hid (ys.map Prod.snd = (xs.take k).map Prod.snd ∧ ys.length = k) ∧
      wr.ownsRow w.heap.size 74 1 (.slice ao' k cap') k (ys.map Prod.fst) ∧ (∀ y ∈ ys, RowAt wr 69 ptE y.1 y.2) ∧ Below w.heap.size w wr ∧ Fresh w.heap.size wr.heap.size ys)
    (fun _ i _ => xs.length - (intOf i).toNat)
  case atStart => exact ⟨0, _, _, [], Nat.zero_le _, rfl, rfl, ⟨rfl, rfl⟩, own_new _ _ (Nat.le_refl _) 74 1 0 [] rfl (by omega), fun y hy => by simp at hy, (Below.refl _ _).alloc (Nat.le_refl _) _, fun y hy => by simp at hy, .nil⟩
  case round =>
    obtain ⟨k, ao', cap', ys, hk, rfl, rfl, HY, hown, hrow, hbel, hfr⟩ := hrel
    have hsz := hbel.size
    by_cases hlt : k < xs.length
    · obtain ⟨rfl, hgs, _⟩ := hg (by omega)
      obtain ⟨aq, cq, hv, c0, ho⟩ := hc k hlt
      have d0 : wr.cell? ⟨g, k, none⟩ = some (.slice aq xs[k].2.length cq) := (hbel.cell (by exact hgs)).trans c0
      have ho := own_below ho hbel (Nat.le_refl _)
      have hlp := hl xs[k] (List.getElem_mem _)
      obtain ⟨ps, hp⟩ : ∃ ps, ps = xs[k].2 := ⟨_, rfl⟩
      rw [← hp] at d0 ho hlp
      have HP : Hid (ps = xs[k].2) := hp
      clear hp hv c0 hc hg hl
      go_wp2_with fail
      refine (points_any aq cq ps _ _ hlp ho).mono ?_
      rintro e w1 ⟨a1, c1, rfl, ho1, hb1⟩
      have hown1 := own_below hown hb1 (Nat.le_refl _)
      have hrow1 : ∀ y ∈ ys, RowAt w1 69 ptE y.1 y.2 := fun y hm => (hrow y hm).below hb1 (Nat.le_refl _)
      have hbel1 := hbel.trans (hb1.mono hbel.size)
      have hlt1 := ho1.lt
      have hs10 := hb1.size
      have ho1 := own_mono ho1 (Nat.zero_le _)
      have hs1 := hbel1.size
      clear hown hrow d0 ho hb1 hbel
      go_wp2_with (at_builtin; refine wpList_push rfl _ _ 86 rfl 74 i0 _ 1 24 Try.underlying86 hi hz0 hz1 hz2 rfl (by decide) (by decide) w _ w.heap.size _ k _ rfl hown1 w.heap.size hbel1 (Nat.le_refl _) (by omega) (by omega) [_] _ _ (by simp) 1 rfl rfl (by simp [Value.oneCell']) ?_)
      intro g' cap'' w3 hown3 hbel3 hsz3 hgr _ _
      have hfr3 : Fresh w.heap.size w3.heap.size (ys ++ [(Value.slice a1 ps.length c1, ps)]) := hfr.snoc hsz (Nat.le_of_lt hsz3) hs10 hlt1
      have hrow3 : ∀ y ∈ ys ++ [(Value.slice a1 ps.length c1, ps)], RowAt w3 69 ptE y.1 y.2 := fun y hm => by
        rcases List.mem_append.1 hm with hm | hm
        · exact ((hrow1 y hm).alloc _).grown (hown1.alloc _) (by decide) hgr
        · rw [List.mem_singleton.1 hm]
          exact ⟨_, _, rfl, own_grown (ho1.alloc _) (hown1.alloc _) (by decide) hgr⟩
      have hown3' : w3.ownsRow w.heap.size 74 1 (.slice (some ⟨g', 0, none⟩) (k + 1) cap'') (k + 1) ((ys ++ [(Value.slice a1 ps.length c1, ps)]).map Prod.fst) := by rw [List.map_append]; exact hown3
      have HY3 : Hid ((ys ++ [(Value.slice a1 ps.length c1, ps)]).map Prod.snd = (xs.take (k + 1)).map Prod.snd ∧ (ys ++ [(Value.slice a1 ps.length c1, ps)]).length = k + 1) := by
        refine ⟨?_, by rw [List.length_append, HY.out.2]; rfl⟩
        rw [List.take_succ_eq_append_getElem hlt, List.map_append, List.map_append, HY.out.1, HP.out]
        rfl
      clear hown3 hgr hown1 hrow1 hfr hlt1
      go_wp2_with fail
      go_roundw
      case rel => exact ⟨k + 1, _, _, _, by omega, by go_num, rfl, HY3, hown3', hrow3, hbel3, hfr3⟩
      case measure => simp [intOf]; omega
    · obtain rfl : k = xs.length := by omega
      have hY2 := HY.out
      rw [List.take_length] at hY2
      go_wp2_with fail
      go_ret
      exact ⟨.slice ao' xs.length cap', ys, rfl, hY2.1, ⟨ao', cap', by rw [hY2.2], by rw [hY2.2]; exact hown, hrow⟩, hbel, hfr⟩

set_option maxRecDepth 100000 in
set_option maxHeartbeats 1000000 in
theorem plainRings_any (v : Value) (xs : List (Value × List (Int × Int))) (B : Nat) (w : World) (hl : ∀ x ∈ xs, x.2.length ≤ 100000000) (hn : xs.length ≤ 10000000) (h : RowsAt w B 74 69 ptE v xs) :
    Calls Try.prog 40 #[v] w fun e w' => ∃ v' ys, e = .returned v' ∧ ys.map Prod.snd = xs.map Prod.snd ∧ RowsAt w' w.heap.size 43 39 ptE v' ys ∧ Below w.heap.size w w' ∧ Fresh w.heap.size w'.heap.size ys := by
  obtain ⟨i0, hi, hz0, hz1, hz2⟩ := info_parts Try.info43
  obtain ⟨ao, cap, g, rfl, hg, hc⟩ := h.read
  clear h
  go_enter Try.func40, Try.ntmps40
  go_wp2_with fail
  go_loopw [3, 9] (fun v i wr => ∃ (k : Nat) (ao' : Option Addr) (cap' : Nat) (ys : List (Value × List (Int × Int))), k ≤ xs.length ∧ i = .int .i64 k ∧ v = .slice ao' k cap' ∧ Hid (ys.map Prod.snd = (xs.take k).map Prod.snd ∧ ys.length = k) ∧
      wr.ownsRow w.heap.size 43 1 (.slice ao' k cap') k (ys.map Prod.fst) ∧ (∀ y ∈ ys, RowAt wr 39 ptE y.1 y.2) ∧ Below w.heap.size w wr ∧ Fresh w.heap.size wr.heap.size ys)
    (fun _ i _ => xs.length - (intOf i).toNat)
  case atStart => exact ⟨0, _, _, [], Nat.zero_le _, rfl, rfl, ⟨rfl, rfl⟩, own_new _ _ (Nat.le_refl _) 43 1 0 [] rfl (by omega), fun y hy => by simp at hy, (Below.refl _ _).alloc (Nat.le_refl _) _, fun y hy => by simp at hy, .nil⟩
  case round =>
    obtain ⟨k, ao', cap', ys, hk, rfl, rfl, HY, hown, hrow, hbel, hfr⟩ := hrel
    have hsz := hbel.size
    by_cases hlt : k < xs.length
    · obtain ⟨rfl, hgs, _⟩ := hg (by omega)
      obtain ⟨aq, cq, hv, c0, ho⟩ := hc k hlt
      have d0 : wr.cell? ⟨g, k, none⟩ = some (.slice aq xs[k].2.length cq) := (hbel.cell (by exact hgs)).trans c0
      have ho := own_below ho hbel (Nat.le_refl _)
      have hlp := hl xs[k] (List.getElem_mem _)
      obtain ⟨ps, hp⟩ : ∃ ps, ps = xs[k].2 := ⟨_, rfl⟩
      rw [← hp] at d0 ho hlp
      have HP : Hid (ps = xs[k].2) := hp
      clear hp hv c0 hc hg hl
      go_wp2_with fail
      refine (plainRing_any aq cq ps _ _ hlp ho).mono ?_
      rintro e w1 ⟨a1, c1, rfl, ho1, hb1⟩
      have hown1 := own_below hown hb1 (Nat.le_refl _)
      have hrow1 : ∀ y ∈ ys, RowAt w1 39 ptE y.1 y.2 := fun y hm => (hrow y hm).below hb1 (Nat.le_refl _)
      have hbel1 := hbel.trans (hb1.mono hbel.size)
      have hlt1 := ho1.lt
      have hs10 := hb1.size
      have ho1 := own_mono ho1 (Nat.zero_le _)
      have hs1 := hbel1.size
      clear hown hrow d0 ho hb1 hbel
      go_wp2_with (at_builtin; refine wpList_push rfl _ _ 46 rfl 43 i0 _ 1 24 Try.underlying46 hi hz0 hz1 hz2 rfl (by decide) (by decide) w _ w.heap.size _ k _ rfl hown1 w.heap.size hbel1 (Nat.le_refl _) (by omega) (by omega) [_] _ _ (by simp) 1 rfl rfl (by simp [Value.oneCell']) ?_)
      intro g' cap'' w3 hown3 hbel3 hsz3 hgr _ _
      have hfr3 : Fresh w.heap.size w3.heap.size (ys ++ [(Value.slice a1 ps.length c1, ps)]) := hfr.snoc hsz (Nat.le_of_lt hsz3) hs10 hlt1
      have hrow3 : ∀ y ∈ ys ++ [(Value.slice a1 ps.length c1, ps)], RowAt w3 39 ptE y.1 y.2 := fun y hm => by
        rcases List.mem_append.1 hm with hm | hm
        · exact ((hrow1 y hm).alloc _).grown (hown1.alloc _) (by decide) hgr
        · rw [List.mem_singleton.1 hm]
          exact ⟨_, _, rfl, own_grown (ho1.alloc _) (hown1.alloc _) (by decide) hgr⟩
      have hown3' : w3.ownsRow w.heap.size 43 1 (.slice (some ⟨g', 0, none⟩) (k + 1) cap'') (k + 1) ((ys ++ [(Value.slice a1 ps.length c1, ps)]).map Prod.fst) := by rw [List.map_append]; exact hown3
      have HY3 : Hid ((ys ++ [(Value.slice a1 ps.length c1, ps)]).map Prod.snd = (xs.take (k + 1)).map Prod.snd ∧ (ys ++ [(Value.slice a1 ps.length c1, ps)]).length = k + 1) := by
        refine ⟨?_, by rw [List.length_append, HY.out.2]; rfl⟩
        rw [List.take_succ_eq_append_getElem hlt, List.map_append, List.map_append, HY.out.1, HP.out]
        rfl
      clear hown3 hgr hown1 hrow1 hfr hlt1
      go_wp2_with fail
      go_roundw
      case rel => exact ⟨k + 1, _, _, _, by omega, by go_num, rfl, HY3, hown3', hrow3, hbel3, hfr3⟩
      case measure => simp [intOf]; omega
    · obtain rfl : k = xs.length := by omega
      have hY2 := HY.out
      rw [List.take_length] at hY2
      go_wp2_with fail
      go_ret
      exact ⟨.slice ao' xs.length cap', ys, rfl, hY2.1, ⟨ao', cap', by rw [hY2.2], by rw [hY2.2]; exact hown, hrow⟩, hbel, hfr⟩

end Go.Proofs.Ytafanlbfbfbeoaa
