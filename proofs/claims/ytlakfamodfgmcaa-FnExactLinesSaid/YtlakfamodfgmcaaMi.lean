/- Several lines, clipped, as the thin package gives them. -/
import Derived.Test.YtlakfamodfgmcaaMl
namespace Go.Proofs.Ytlakfamodfgmcaa
open Go.RowKit

set_option maxRecDepth 100000 in
set_option maxHeartbeats 2000000 in
theorem implLines_any (lx ly hx hy : Int) (hnl : Near (lx, ly)) (hnh : Near (hx, hy)) (h1 : lx < hx) (h2 : ly < hy) (v : Value) (xs : List (Value × List (Int × Int))) (B : Nat) (w : World) (hxl : xs.length ≤ 1000)
    (hok : ∀ x ∈ xs, x.2.length ≤ 1000 ∧ (∀ p ∈ x.2, Near p) ∧ ∀ i (h : i + 1 < x.2.length), Octi x.2[i] x.2[i + 1]) (h : RowsAt w B 34 38 ptE v xs) :
    Calls Try.prog 34 #[.agg #[.float .f64 (F lx), .float .f64 (F ly), .float .f64 (F hx), .float .f64 (F hy)], v] w
      fun e w' => ∃ v' ys, e = .returned v' ∧ ys.map Prod.snd = (xs.map Prod.snd).flatMap (lineL false lx ly hx hy) ∧ RowsAt w' w.heap.size 34 38 ptE v' ys ∧ Below w.heap.size w w' := by
  obtain ⟨i0, hi, hz0, hz1, hz2⟩ := info_parts Try.info84
  obtain ⟨ao, cap, g, rfl, hg, hc⟩ := h.read
  clear h
  have hl : ∀ x ∈ xs, x.2.length ≤ 100000000 := fun x hx => by have := (hok x hx).1; omega
  have hn : xs.length ≤ 10000000 := by omega
  have HOK : Hid (∀ x ∈ xs, x.2.length ≤ 1000 ∧ (∀ p ∈ x.2, Near p) ∧ ∀ i (h : i + 1 < x.2.length), Octi x.2[i] x.2[i + 1]) := hok
  clear hok
  go_enter Try.func34, Try.ntmps34
  go_wp2_with fail
  go_loopw [5, 11] (fun v i wr => ∃ (k : Nat) (ao' : Option Addr) (cap' : Nat) (ys : List (Value × List (Int × Int))), k ≤ xs.length ∧ i = .int .i64 k ∧ v = .slice ao' k cap' ∧ Hid (ys.map Prod.snd = (xs.take k).map Prod.snd ∧ ys.length = k) ∧
      wr.ownsRow (w.heap.size + 1) 84 1 (.slice ao' k cap') k (ys.map Prod.fst) ∧ (∀ y ∈ ys, RowAt wr 71 ptE y.1 y.2) ∧ Below w.heap.size w wr ∧ Blk wr w.heap.size #[.float .f64 (F lx), .float .f64 (F ly), .float .f64 (F hx), .float .f64 (F hy)] 40)
    (fun _ i _ => xs.length - (intOf i).toNat)
  case atStart =>
    have ho0 := own_new (w.alloc (.cells #[.float .f64 (F lx), .float .f64 (F ly), .float .f64 (F hx), .float .f64 (F hy)] 40)) (w.heap.size + 1) (by simp) 84 1 0 [] rfl (by omega)
    rw [World.size_alloc] at ho0
    exact ⟨0, _, _, [], Nat.zero_le _, rfl, rfl, ⟨rfl, rfl⟩, ho0, fun y hy => by simp at hy, ((Below.refl _ _).alloc (Nat.le_refl _) _).alloc (by simp) _, (Blk.new _ _ _).alloc _⟩
  case round =>
    obtain ⟨k, ao', cap', ys, hk, rfl, rfl, HY, hown, hrow, hbel, hbox⟩ := hrel
    have hsz := hbel.size
    by_cases hlt : k < xs.length
    · obtain ⟨rfl, hgs, _⟩ := hg (by omega)
      obtain ⟨aq, cq, hv, c0, ho⟩ := hc k hlt
      have d0 : wr.cell? ⟨g, k, none⟩ = some (.slice aq xs[k].2.length cq) := (hbel.cell (by exact hgs)).trans c0
      have ho := own_below ho hbel (Nat.le_refl _)
      have hlp := hl xs[k] (List.getElem_mem _)
      obtain ⟨ps, hp⟩ : ∃ ps, ps = xs[k].2 := ⟨_, rfl⟩
      rw [← hp] at d0 ho hlp
      have HP : Hid (ps = xs[k].2) := hp
      clear hp hv c0 hc hg hl
      go_wp2_with fail
      refine (points_any aq cq ps _ _ hlp ho).mono ?_
      rintro e w1 ⟨a1, c1, rfl, ho1, hb1⟩
      have hown1 := own_below hown hb1 (Nat.le_refl _)
      have hrow1 : ∀ y ∈ ys, RowAt w1 71 ptE y.1 y.2 := fun y hm => (hrow y hm).below hb1 (Nat.le_refl _)
      have hbel1 := hbel.trans (hb1.mono hbel.size)
      have hbox1 := hbox.below hb1 hbox.lt
      have hbl1 := hbox1.lt
      have ho1 := own_mono ho1 (Nat.zero_le _)
      have hs1 := hbel1.size
      clear hown hrow d0 ho hb1 hbel
      go_wp2_with (at_builtin; refine wpList_push rfl _ _ 82 rfl 84 i0 _ 1 24 Try.underlying82 hi hz0 hz1 hz2 rfl (by decide) (by decide) w _ (w.heap.size + 1) _ k _ rfl hown1 w.heap.size hbel1 (Nat.le_succ _) (by omega) (by omega) [_] _ _ (by simp) 1 rfl rfl (by simp [Value.oneCell']) ?_)
      intro g' cap'' w3 hown3 hbel3 hsz3 hgr _ _
      have hbox3 := (hbox1.alloc (.cells #[.slice a1 ps.length c1] 84)).grown hgr fun e => by have := (hown1.lt _ e.symm).1; omega
      have hrow3 : ∀ y ∈ ys ++ [(Value.slice a1 ps.length c1, ps)], RowAt w3 71 ptE y.1 y.2 := fun y hm => by
        rcases List.mem_append.1 hm with hm | hm
        · exact ((hrow1 y hm).alloc _).grown (hown1.alloc _) (by decide) hgr
        · rw [List.mem_singleton.1 hm]
          exact ⟨_, _, rfl, own_grown (ho1.alloc _) (hown1.alloc _) (by decide) hgr⟩
      have hown3' : w3.ownsRow (w.heap.size + 1) 84 1 (.slice (some ⟨g', 0, none⟩) (k + 1) cap'') (k + 1) ((ys ++ [(Value.slice a1 ps.length c1, ps)]).map Prod.fst) := by rw [List.map_append]; exact hown3
      have HY3 : Hid ((ys ++ [(Value.slice a1 ps.length c1, ps)]).map Prod.snd = (xs.take (k + 1)).map Prod.snd ∧ (ys ++ [(Value.slice a1 ps.length c1, ps)]).length = k + 1) := by
        refine ⟨?_, by rw [List.length_append, HY.out.2]; rfl⟩
        rw [List.take_succ_eq_append_getElem hlt, List.map_append, List.map_append, HY.out.1, HP.out]
        rfl
      clear hown3 hgr hown1 hrow1 hbox1
      go_wp2_with fail
      go_roundw
      case rel => exact ⟨k + 1, _, _, _, by omega, by go_num, rfl, HY3, hown3', hrow3, hbel3, hbox3⟩
      case measure => simp [intOf]; omega
    · obtain rfl : k = xs.length := by omega
      have hY2 := HY.out
      rw [List.take_length] at hY2
      have hok2 : ∀ y ∈ ys, y.2.length ≤ 1000 ∧ (∀ p ∈ y.2, Near p) ∧ ∀ i (h : i + 1 < y.2.length), Octi y.2[i] y.2[i + 1] := fun y hm => by
        have hm : y.2 ∈ xs.map Prod.snd := by rw [← hY2.1]; exact List.mem_map_of_mem hm
        obtain ⟨x, hxm, e⟩ := List.mem_map.1 hm
        have key : ∀ l, x.2 = l → l.length ≤ 1000 ∧ (∀ p ∈ l, Near p) ∧ ∀ i (h : i + 1 < l.length), Octi l[i] l[i + 1] := fun l e => by subst e; exact HOK.out x hxm
        exact key _ e
      have hyl : ys.length ≤ 1000 := by omega
      have HS : Hid (ys.map Prod.snd = xs.map Prod.snd) := hY2.1
      have hrs : RowsAt wr (w.heap.size + 1) 84 71 ptE (.slice ao' xs.length cap') ys := ⟨ao', cap', by rw [hY2.2], by rw [hY2.2]; exact hown, hrow⟩
      have e0 : wr.cell? ⟨w.heap.size, 0, none⟩ = some (.float .f64 (F lx)) := hbox.cell 0
      have e1 : wr.cell? ⟨w.heap.size, 1, none⟩ = some (.float .f64 (F ly)) := hbox.cell 1
      have e2 : wr.cell? ⟨w.heap.size, 2, none⟩ = some (.float .f64 (F hx)) := hbox.cell 2
      have e3 : wr.cell? ⟨w.heap.size, 3, none⟩ = some (.float .f64 (F hy)) := hbox.cell 3
      clear hY2 hown hrow hc hg HY
      go_wp2_with fail
      refine (bound_any lx ly hx hy _).mono ?_
      rintro e w1 ⟨rfl, hb1⟩
      have hr1 := hrs.below hb1 (Nat.le_refl _)
      have hB1 := hbel.trans (hb1.mono hbel.size)
      clear e0 e1 e2 e3 hb1 hrs hbox hbel
      go_wp2_with fail
      refine (multiLine_any lx ly hx hy hnl hnh h1 h2 _ ys _ _ hyl hok2 hr1).mono ?_
      rintro e w2 ⟨v2, y2, rfl, hy2, hr2, hb2, hl2, hn2⟩
      have hB2 := hB1.trans (hb2.mono hB1.size)
      rw [HS.out] at hy2
      clear hr1 hb2 hok2
      go_wp2_with fail
      refine (plainLines_any v2 y2 _ _ (fun x hxm => by have := hl2 x hxm; omega) (by omega) hr2).mono ?_
      rintro e w3 ⟨v3, y3, rfl, hy3, hr3, hb3, _⟩
      have hB3 := hB2.trans (hb3.mono hB2.size)
      have hr5 := hr3.mono hB2.size
      have hy5 := hy3.trans hy2
      clear hr2 hb3 hr3 hy3 hy2 hl2 hn2
      go_wp2_with fail
      go_ret
      exact ⟨_, y3, rfl, hy5, hr5, hB3⟩
end Go.Proofs.Ytlakfamodfgmcaa
