/- Rings of points with whole coordinates, read back. -/
import Derived.Test.YtlakfamodfgmcaaRa
namespace Go.Proofs.Ytlakfamodfgmcaa
open Go.RowKit

set_option maxRecDepth 100000 in
set_option maxHeartbeats 2000000 in
theorem rings_any (lx ly hx hy : Int) (h1 : -1000 ≤ lx ∧ hx ≤ 1000) (h2 : -1000 ≤ ly ∧ hy ≤ 1000) (v : Value) (xs : List (Value × List (Int × Int))) (B : Nat) (w : World)
    (hin : ∀ x ∈ xs, ∀ p ∈ x.2, hasB lx ly hx hy p.1 p.2 = true) (hl : ∀ x ∈ xs, x.2.length ≤ 100000) (hn : xs.length ≤ 1000) (h : RowsAt w B 34 38 ptE v xs) :
    Calls Try.prog 25 #[.agg #[.int .i64 lx, .int .i64 ly, .int .i64 hx, .int .i64 hy], v] w
      fun e w' => ∃ v' ys, e = .returned (.tuple #[v', .bool true]) ∧ ys.map Prod.snd = xs.map Prod.snd ∧ RowsAt w' w.heap.size 29 25 spotE v' ys ∧ Below w.heap.size w w' := by
  obtain ⟨i0, hi, hz0, hz1, hz2⟩ := info_parts Try.info29
  obtain ⟨ao, cap, g, rfl, hg, hc⟩ := h.read
  clear h
  go_enter Try.func25, Try.ntmps25
  go_wp2_with fail
  go_loopw [6, 16] (fun v i wr => ∃ (k : Nat) (ao' : Option Addr) (cap' : Nat) (ys : List (Value × List (Int × Int))), k ≤ xs.length ∧ i = .int .i64 k ∧ v = .slice ao' k cap' ∧ Hid (ys.map Prod.snd = (xs.take k).map Prod.snd ∧ ys.length = k) ∧
      wr.ownsRow (w.heap.size + 1) 29 1 (.slice ao' k cap') k (ys.map Prod.fst) ∧ (∀ y ∈ ys, RowAt wr 25 spotE y.1 y.2) ∧
      Blk wr w.heap.size #[.int .i64 lx, .int .i64 ly, .int .i64 hx, .int .i64 hy] 27 ∧ Below w.heap.size w wr)
    (fun _ i _ => xs.length - (intOf i).toNat)
  case atStart =>
    have ho0 := own_new (w.alloc (.cells #[.int .i64 lx, .int .i64 ly, .int .i64 hx, .int .i64 hy] 27)) (w.heap.size + 1) (by simp) 29 1 0 [] rfl (by omega)
    rw [World.size_alloc] at ho0
    exact ⟨0, _, _, [], Nat.zero_le _, rfl, rfl, ⟨rfl, rfl⟩, ho0, fun y hy => by simp at hy, (Blk.new _ _ _).alloc _, ((Below.refl _ _).alloc (Nat.le_refl _) _).alloc (by simp) _⟩
  case round =>
    obtain ⟨k, ao', cap', ys, hk, rfl, rfl, HY, hown, hrow, hbox, hbel⟩ := hrel
    by_cases hlt : k < xs.length
    · obtain ⟨rfl, hgs, _⟩ := hg (by omega)
      obtain ⟨aq, cq, hv, c0, ho⟩ := hc k hlt
      have d0 : wr.cell? ⟨g, k, none⟩ = some (.slice aq xs[k].2.length cq) := (hbel.cell (by exact hgs)).trans c0
      have ho := own_below ho hbel (Nat.le_refl _)
      have hip := hin xs[k] (List.getElem_mem _)
      have hlp := hl xs[k] (List.getElem_mem _)
      obtain ⟨ps, hp⟩ : ∃ ps, ps = xs[k].2 := ⟨_, rfl⟩
      rw [← hp] at d0 ho hip hlp
      have HP : Hid (ps = xs[k].2) := hp
      have hsp : ∀ p ∈ ps, (-100000 < p.1 ∧ p.1 < 100000) ∧ (-100000 < p.2 ∧ p.2 < 100000) := fun p hm => by
        have := hasB_iff.1 (hip p hm); omega
      clear hp hv c0 hc hg hl hin
      go_wp2_with fail
      refine (spots_any aq cq ps _ _ hsp (by omega) ho).mono ?_
      rintro e w1 ⟨a1, c1, rfl, ho1, hb1⟩
      have hown1 := own_below hown hb1 (Nat.le_refl _)
      have hrow1 : ∀ y ∈ ys, RowAt w1 25 spotE y.1 y.2 := fun y hm => (hrow y hm).below hb1 (Nat.le_refl _)
      have hbox1 := hbox.below hb1 hbox.lt
      have hbel1 := hbel.trans (hb1.mono hbel.size)
      have ho1 := own_mono ho1 (Nat.zero_le _)
      have hs1 := hbel1.size
      have hbl := hbox1.lt
      clear hown hrow hbox d0 ho hsp hb1 hbel
      obtain ⟨g1, hg1, hc1⟩ := spots_read ho1
      go_wp2_with fail
      go_loopw [29] (fun i wq => ∃ (j : Nat), j ≤ ps.length ∧ i = .int .i64 j ∧ Below w1.heap.size w1 wq) (fun i _ => ps.length - (intOf i).toNat)
      case atStart => exact ⟨0, Nat.zero_le _, rfl, Below.refl _ _⟩
      case round =>
        obtain ⟨j, hj, rfl, hbq⟩ := hrel
        have hsq := hbq.size
        by_cases hjl : j < ps.length
        · obtain ⟨rfl, hgs1, _⟩ := hg1 (by omega)
          obtain ⟨p0, p1⟩ := hc1 j hjl
          have p0 := (hbq.cell (by exact hgs1)).trans p0
          have p1 := (hbq.cell (by exact hgs1)).trans p1
          have hpj := hip _ (List.getElem_mem hjl)
          obtain ⟨p, hp⟩ : ∃ p, p = ps[j] := ⟨_, rfl⟩
          rw [← hp] at p0 p1 hpj
          clear hp hc1 hg1
          have e0 : wr.cell? ⟨w.heap.size, 0, none⟩ = some (.int .i64 lx) := (hbq.cell (by exact hbl)).trans (hbox1.cell 0)
          have e1 : wr.cell? ⟨w.heap.size, 1, none⟩ = some (.int .i64 ly) := (hbq.cell (by exact hbl)).trans (hbox1.cell 1)
          have e2 : wr.cell? ⟨w.heap.size, 2, none⟩ = some (.int .i64 hx) := (hbq.cell (by exact hbl)).trans (hbox1.cell 2)
          have e3 : wr.cell? ⟨w.heap.size, 3, none⟩ = some (.int .i64 hy) := (hbq.cell (by exact hbl)).trans (hbox1.cell 3)
          have hbl' : w.heap.size < wr.heap.size := by omega
          go_wp2_with fail
          refine (has_any lx ly hx hy p.1 p.2 _).mono ?_
          rintro e w2 ⟨rfl, hb2⟩
          rw [hpj]
          have hbq2 : Below w1.heap.size w1 w2 := (hbq.alloc hsq _).trans (hb2.mono (by simp; omega))
          clear e0 e1 e2 e3 p0 p1
          go_wp2_with fail
          go_roundw
          case rel => exact ⟨j + 1, by omega, by go_num, hbq2⟩
          case measure => simp [intOf]; omega
        · obtain rfl : j = ps.length := by omega
          have hownq := own_below hown1 hbq (Nat.le_refl _)
          have hrowq : ∀ y ∈ ys, RowAt wr 25 spotE y.1 y.2 := fun y hm => (hrow1 y hm).below hbq (Nat.le_refl _)
          have hboxq := hbox1.below hbq hbl
          have hbelq := hbel1.trans (hbq.mono hs1)
          have hoq := own_below ho1 hbq (Nat.le_refl _)
          clear hown1 hrow1 hbox1 hbel1 ho1 hg1 hc1
          go_wp2_with (at_builtin; refine wpList_push rfl _ _ 48 rfl 29 i0 _ 1 24 Try.underlying48 hi hz0 hz1 hz2 rfl (by decide) (by decide) w _ (w.heap.size + 1) _ k _ rfl hownq w.heap.size hbelq (by omega) (by omega) (by omega) [_] _ _ (by simp) 1 rfl rfl (by simp [Value.oneCell']) ?_)
          intro g' cap'' w3 hown3 hbel3 _ hgr _ _
          have hbox3 := (hboxq.alloc (.cells #[.slice a1 ps.length c1] 29)).grown hgr (fun e => by have := (hownq.lt _ e.symm).1; omega)
          have hrow3 : ∀ y ∈ ys ++ [(Value.slice a1 ps.length c1, ps)], RowAt w3 25 spotE y.1 y.2 := fun y hm => by
            rcases List.mem_append.1 hm with hm | hm
            · exact ((hrowq y hm).alloc _).grown (hownq.alloc _) (by decide) hgr
            · rw [List.mem_singleton.1 hm]
              exact ⟨_, _, rfl, own_grown (hoq.alloc _) (hownq.alloc _) (by decide) hgr⟩
          have hown3' : w3.ownsRow (w.heap.size + 1) 29 1 (.slice (some ⟨g', 0, none⟩) (k + 1) cap'') (k + 1) ((ys ++ [(Value.slice a1 ps.length c1, ps)]).map Prod.fst) := by rw [List.map_append]; exact hown3
          have HY3 : Hid ((ys ++ [(Value.slice a1 ps.length c1, ps)]).map Prod.snd = (xs.take (k + 1)).map Prod.snd ∧ (ys ++ [(Value.slice a1 ps.length c1, ps)]).length = k + 1) := by
            refine ⟨?_, by rw [List.length_append, HY.out.2]; rfl⟩
            rw [List.take_succ_eq_append_getElem hlt, List.map_append, List.map_append, HY.out.1, HP.out]
            rfl
          clear hown3 hgr hownq hrowq hboxq hoq
          go_wp2_with fail
          go_roundw
          case rel => exact ⟨k + 1, _, _, _, by omega, by go_num, rfl, HY3, hown3', hrow3, hbox3, hbel3⟩
          case measure => simp [intOf]; omega
    · obtain rfl : k = xs.length := by omega
      have hY2 := HY.out
      rw [List.take_length] at hY2
      have hbw := hown
      go_wp2_with fail
      go_ret2
      exact ⟨.slice ao' xs.length cap', ys, rfl, hY2.1, ⟨ao', cap', by rw [hY2.2], own_mono (by rw [hY2.2]; exact hown) (Nat.le_succ _), hrow⟩, hbel⟩
end Go.Proofs.Ytlakfamodfgmcaa
