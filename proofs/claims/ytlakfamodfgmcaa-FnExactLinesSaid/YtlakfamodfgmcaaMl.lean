/- Several lines, clipped. -/
import Derived.Test.YtlakfamodfgmcaaLs
import Derived.Test.YtlakfamodfgmcaaCd
namespace Go.Proofs.Ytlakfamodfgmcaa
open Go.RowKit

theorem flat_take {α β : Type} (f : α → List β) (xs : List α) (k : Nat) (h : k < xs.length) : (xs.take (k + 1)).flatMap f = (xs.take k).flatMap f ++ f xs[k] := by
  rw [List.take_succ_eq_append_getElem h, List.flatMap_append]; simp

set_option maxRecDepth 100000 in
set_option maxHeartbeats 2000000 in
theorem multiLine_any (lx ly hx hy : Int) (hl : Near (lx, ly)) (hh : Near (hx, hy)) (h1 : lx < hx) (h2 : ly < hy) (v : Value) (xs : List (Value × List (Int × Int))) (B : Nat) (w : World) (hxl : xs.length ≤ 1000)
    (hok : ∀ x ∈ xs, x.2.length ≤ 1000 ∧ (∀ p ∈ x.2, Near p) ∧ ∀ i (h : i + 1 < x.2.length), Octi x.2[i] x.2[i + 1]) (h : RowsAt w B 84 71 ptE v xs) :
    Calls Try.prog 51 #[.agg #[.float .f64 (F lx), .float .f64 (F ly), .float .f64 (F hx), .float .f64 (F hy)], v, .slice none 0 0] w
      fun e w' => ∃ v' ys, e = .returned v' ∧ ys.map Prod.snd = (xs.map Prod.snd).flatMap (lineL false lx ly hx hy) ∧ RowsAt w' w.heap.size 84 71 ptE v' ys ∧ Below w.heap.size w w' ∧ (∀ y ∈ ys, y.2.length ≤ 2000) ∧ ys.length ≤ 1001 * xs.length := by
  obtain ⟨i0, hi, hz0, hz1, hz2⟩ := info_parts Try.info84
  obtain ⟨ao, cap, g, rfl, hg, hc⟩ := h.read
  clear h
  go_enter Try.func51, Try.ntmps51
  go_wp2_with fail
  go_loopw [11, 36] (fun v i wr => ∃ (k : Nat) (ao' : Option Addr) (cap' : Nat) (ys : List (Value × List (Int × Int))), k ≤ xs.length ∧ i = .int .i64 k ∧ v = .slice ao' ys.length cap' ∧ Hid (ys.map Prod.snd = ((xs.take k).map Prod.snd).flatMap (lineL false lx ly hx hy)) ∧
      wr.ownsRow (w.heap.size + 1) 84 1 (.slice ao' ys.length cap') ys.length (ys.map Prod.fst) ∧ (∀ y ∈ ys, RowAt wr 71 ptE y.1 y.2 ∧ y.2.length ≤ 2000) ∧ ys.length ≤ 1001 * k ∧
      Blk wr w.heap.size #[.float .f64 (F lx), .float .f64 (F ly), .float .f64 (F hx), .float .f64 (F hy)] 73 ∧ Below w.heap.size w wr)
    (fun _ i _ => xs.length - (intOf i).toNat)
  case atStart => exact ⟨0, none, 0, [], Nat.zero_le _, rfl, rfl, rfl, World.ownsRow_nil _ _ _ _, fun y hy => by simp at hy, by simp, Blk.new _ _ _, (Below.refl _ _).alloc (Nat.le_refl _) _⟩
  case round =>
    obtain ⟨k, ao', cap', ys, hk, rfl, rfl, HY, hown, hrow, hyl, hbox, hbel⟩ := hrel
    by_cases hlt : k < xs.length
    · obtain ⟨rfl, hgs, _⟩ := hg (by omega)
      obtain ⟨aq, cq, hv, c0, ho⟩ := hc k hlt
      have d0 : wr.cell? ⟨g, k, none⟩ = some (.slice aq xs[k].2.length cq) := (hbel.cell (by exact hgs)).trans c0
      have ho := own_below ho hbel (Nat.le_refl _)
      obtain ⟨q1, q2, q3⟩ := hok xs[k] (List.getElem_mem _)
      have HN : Hid (((xs.take (k + 1)).map Prod.snd).flatMap (lineL false lx ly hx hy) = ys.map Prod.snd ++ lineL false lx ly hx hy xs[k].2) := by
        show _ = _
        rw [HY.out, List.flatMap_map, List.flatMap_map]
        exact flat_take (fun x : Value × List (Int × Int) => lineL false lx ly hx hy x.2) xs k hlt
      have hline := fun (W : World) (hr : W.ownsRow 0 71 2 (.slice aq (xs[k]'hlt).2.length cq) (xs[k]'hlt).2.length ((xs[k]'hlt).2.flatMap ptE)) => line_any false lx ly hx hy hl hh h1 h2 aq cq (xs[k]'hlt).2 0 W q1 q2 q3 hr
      obtain ⟨ps, hp⟩ : ∃ ps, ps = xs[k].2 := ⟨_, rfl⟩
      rw [← hp] at d0 ho HN hline
      obtain ⟨R, hR⟩ : ∃ R, R = lineL false lx ly hx hy ps := ⟨_, rfl⟩
      rw [← hR] at hline HN
      have e0 : wr.cell? ⟨w.heap.size, 0, none⟩ = some (.float .f64 (F lx)) := hbox.cell 0
      have e1 : wr.cell? ⟨w.heap.size, 1, none⟩ = some (.float .f64 (F ly)) := hbox.cell 1
      have e2 : wr.cell? ⟨w.heap.size, 2, none⟩ = some (.float .f64 (F hx)) := hbox.cell 2
      have e3 : wr.cell? ⟨w.heap.size, 3, none⟩ = some (.float .f64 (F hy)) := hbox.cell 3
      clear hp hR hv c0 hc hg hok q1 q2 q3 HY
      go_wp2_with fail
      refine (hline _ ho).mono ?_
      rintro e w1 ⟨v1, x1, rfl, hx1, hr1, hb1, hl1, hn1⟩
      have HX : Hid (x1.map Prod.snd = R) := hx1
      have hown1 := own_below hown hb1 (Nat.le_refl _)
      have hrow1 : ∀ y ∈ ys, RowAt w1 71 ptE y.1 y.2 ∧ y.2.length ≤ 2000 := fun y hm => ⟨(hrow y hm).1.below hb1 (Nat.le_refl _), (hrow y hm).2⟩
      have hbox1 := hbox.below hb1 hbox.lt
      have hbel1 := hbel.trans (hb1.mono hbel.size)
      have hs1 := hbox1.lt
      obtain ⟨a1, c1, rfl, ho1, hrx⟩ := hr1
      clear hown hrow hbox d0 ho hb1 hbel hx1 e0 e1 e2 e3
      by_cases hz : x1 = []
      · have HW : Hid (ys.map Prod.snd = ((xs.take (k + 1)).map Prod.snd).flatMap (lineL false lx ly hx hy)) := by
          show _ = _
          rw [HN.out, ← HX.out, hz]; simp
        subst hz
        go_wp2_with fail
        go_roundw
        case rel => exact ⟨k + 1, _, _, ys, by omega, by go_num, rfl, HW.out, hown1, hrow1, by omega, hbox1, hbel1⟩
        case measure => simp [intOf]; omega
      · have hxp : 0 < x1.length := List.length_pos_iff.2 hz
        obtain ⟨gx, cx, hform, _, _⟩ := ho1.form hxp
        injection hform with hf1 hf2 hf3
        subst hf1
        subst hf3
        have HW : Hid ((ys ++ x1).map Prod.snd = ((xs.take (k + 1)).map Prod.snd).flatMap (lineL false lx ly hx hy)) := by
          show _ = _
          rw [HN.out, ← HX.out, List.map_append]
        have hone : ∀ u ∈ x1.map Prod.fst, u.oneCell' = true := fun u hu => by
          obtain ⟨x, hx, rfl⟩ := List.mem_map.1 hu
          obtain ⟨_, _, e, _⟩ := hrx x hx
          rw [e]; rfl
        go_wp2_with (at_builtin; refine wpList_pushAll rfl (.tmp 47) (.tmp 48) 82 rfl 84 i0 _ 1 24 Try.underlying82 hi hz0 hz1 hz2 rfl (by decide) (by decide) w _ (w.heap.size + 1) _ ys.length _ rfl hown1 w.heap.size hbel1 (Nat.le_succ _) (by omega) (by omega) (x1.map Prod.fst) _ gx x1.length _ ho1 hxp (by omega) rfl hone (Nat.le_refl _) ?_)
        intro g5 cap5 w5 hown5 hbel5 hgr5 _ _
        have hrow5 : ∀ y ∈ ys ++ x1, RowAt w5 71 ptE y.1 y.2 ∧ y.2.length ≤ 2000 := fun y hm => by
          rcases List.mem_append.1 hm with hm | hm
          · exact ⟨(hrow1 y hm).1.grown hown1 (by decide) hgr5, (hrow1 y hm).2⟩
          · exact ⟨(hrx y hm).grown hown1 (by decide) hgr5, hl1 y hm⟩
        have hbox5 := hbox1.grown hgr5 fun e => by have := (hown1.lt _ e.symm).1; omega
        have hown5' : w5.ownsRow (w.heap.size + 1) 84 1 (.slice (some ⟨g5, 0, none⟩) (ys.length + x1.length) cap5) (ys.length + x1.length) ((ys ++ x1).map Prod.fst) := by rw [List.map_append]; exact hown5
        have hyl5 : ys.length + x1.length ≤ 1001 * (k + 1) := by omega
        clear hown5 hgr5 hown1 hrow1 hrx hbox1 hl1 hyl
        go_wp2_with fail
        go_roundw
        case rel => exact ⟨k + 1, _, _, ys ++ x1, by omega, by go_num, by rw [List.length_append], HW.out, by rw [List.length_append]; exact hown5', hrow5, by rw [List.length_append]; exact hyl5, hbox5, hbel5⟩
        case measure => simp [intOf]; omega
    · obtain rfl : k = xs.length := by omega
      have HW : Hid (ys.map Prod.snd = (xs.map Prod.snd).flatMap (lineL false lx ly hx hy)) := by
        have h := HY.out
        rwa [List.take_length] at h
      go_wp2_with fail
      go_ret
      exact ⟨.slice ao' ys.length cap', ys, rfl, HW.out, ⟨ao', cap', rfl, own_mono hown (Nat.le_succ _), fun y hm => (hrow y hm).1⟩, hbel, fun y hm => (hrow y hm).2, hyl⟩
end Go.Proofs.Ytlakfamodfgmcaa
