/- What the proofs over smartclip lean on, part 43 of 48. -/
import Derived.Test.YtafanlbfbfbeoaaM41
import Derived.Test.YtafanlbfbfbeoaaM40
import Derived.Test.YtafanlbfbfbeoaaM02
import Derived.Test.YtafanlbfbfbeoaaM24
import Derived.Test.YtafanlbfbfbeoaaM06
import Derived.Deep.DeepCutAuto
import Derived.Test.YtafanlbfbfbeoaaM01

/- Twice: points doubled. -/
namespace Go.Proofs.Ytafanlbfbfbeoaa
open Go.RowKit

set_option maxRecDepth 100000 in
set_option maxHeartbeats 400000 in
theorem twice_any (ao : Option Addr) (cap : Nat) (ps : List (Int × Int)) (B : Nat) (w : World) (hl : ps.length ≤ 100000) (hn : ∀ p ∈ ps, Near p) (h : w.ownsRow B 25 2 (.slice ao ps.length cap) ps.length (ps.flatMap spotE)) :
    Calls Try.prog 23 #[.slice ao ps.length cap] w fun e w' => ∃ ao' cap', e = .returned (.slice ao' ps.length cap') ∧ w'.ownsRow w.heap.size 25 2 (.slice ao' ps.length cap') ps.length ((ps.map dblP).flatMap spotE) ∧ Below w.heap.size w w' := by
  obtain ⟨i0, hi, hz0, hz1, hz2⟩ := info_parts Try.info25
  obtain ⟨g, hg, hc⟩ := spots_read h
  clear h
  go_enter Try.func23, Try.ntmps23
  go_wp2
  go_loopw [3, 9] (fun v i wr => ∃ (k : Nat) (ao' : Option Addr) (cap' : Nat), k ≤ ps.length ∧ i = .int .i64 k ∧ v = .slice ao' k cap' ∧ wr.ownsRow w.heap.size 25 2 (.slice ao' k cap') k (((ps.map dblP).take k).flatMap spotE) ∧ Below w.heap.size w wr)
    (fun _ i _ => ps.length - (intOf i).toNat)
  case atStart => exact ⟨0, _, _, Nat.zero_le _, rfl, rfl, own_new w _ (Nat.le_refl _) 25 2 0 [] rfl (by omega), (Below.refl _ _).alloc (Nat.le_refl _) _⟩
  case round =>
    obtain ⟨k, ao', cap', hk, rfl, rfl, hown, hbel⟩ := hrel
    have hsz := hbel.size
    by_cases hlt : k < ps.length
    · obtain ⟨rfl, hgs, _⟩ := hg (by omega)
      obtain ⟨c0, c1⟩ := hc k hlt
      have hp := hn ps[k] (List.getElem_mem _)
      have hps : (ps.map dblP)[k]'(by simpa using hlt) = dblP ps[k] := by simp
      have d0 : wr.cell? ⟨g, k * 2, none⟩ = some (.int .i64 ps[k].1) := (hbel.cell (by exact hgs)).trans c0
      have d1 : wr.cell? ⟨g, k * 2 + 1, none⟩ = some (.int .i64 ps[k].2) := (hbel.cell (by exact hgs)).trans c1
      have HPS : Hid (((ps.map dblP).take (k + 1)).flatMap spotE = ((ps.map dblP).take k).flatMap spotE ++ [.int .i64 (2 * ps[k].1), .int .i64 (2 * ps[k].2)]) := by
        show _ = _
        rw [← take_snoc_flat spotE (ps.map dblP) k (by simpa using hlt), hps]; rfl
      generalize ps[k] = p at *
      obtain ⟨XS, hXS⟩ : ∃ XS, XS = ((ps.map dblP).take k).flatMap spotE := ⟨_, rfl⟩
      rw [← hXS] at hown HPS
      obtain ⟨⟨m1, m2⟩, m3, m4⟩ := hp
      have w1' : wrap64 (2 * p.1) = 2 * p.1 := by simp only [wrap64]; omega
      have w2' : wrap64 (2 * p.2) = 2 * p.2 := by simp only [wrap64]; omega
      clear c0 c1 hg hc hps hXS
      go_wp2_with (at_builtin; refine wpList_push rfl _ _ 29 rfl 25 i0 _ 2 16 Try.underlying29 hi hz0 hz1 hz2 rfl (by decide) (by decide) w _ w.heap.size _ k _ rfl (hown.alloc _) w.heap.size (below_alloc hbel _ (Nat.le_refl _)) (Nat.le_refl _) (by simp; omega) (by omega) [_, _] _ _ (by simp) 1 rfl rfl (by simp [Value.oneCell']) ?_)
      intro g' cap'' w1 hown1 hbel1 _ _ _ _
      have hown2 : w1.ownsRow w.heap.size 25 2 (.slice (some ⟨g', 0, none⟩) (k + 1) cap'') (k + 1) (((ps.map dblP).take (k + 1)).flatMap spotE) := by rw [HPS.out]; exact hown1
      clear hown1 hown d0 d1
      go_wp2
      go_roundw
      case rel => exact ⟨k + 1, _, _, by omega, by go_num, rfl, hown2, hbel1⟩
      case measure => simp [intOf]; omega
    · obtain rfl : k = ps.length := by omega
      have e : (ps.map dblP).take ps.length = ps.map dblP := by rw [← List.length_map (f := dblP), List.take_length]
      rw [e] at hown
      go_wp2
      go_ret
      exact ⟨_, _, rfl, hown, hbel⟩

theorem take_map_flat (ps : List (Int × Int)) (k : Nat) (hlt : k < ps.length) : ((ps.take (k + 1)).flatMap ptE) = (ps.take k).flatMap ptE ++ [.float .f64 (F ps[k].1), .float .f64 (F ps[k].2)] := (take_snoc_flat ptE ps k hlt).symm

set_option maxRecDepth 100000 in
set_option maxHeartbeats 2000000 in
theorem halves_any (lx ly hx hy : Int) (h1 : -200 ≤ lx ∧ hx ≤ 200) (h2 : -200 ≤ ly ∧ hy ≤ 200) (h3 : lx ≤ hx) (h4 : ly ≤ hy) (v : Value) (xs : List (Value × List (Int × Int))) (B : Nat) (w : World)
    (hin : ∀ x ∈ xs, ∀ p ∈ x.2, hasB (2 * lx) (2 * ly) (2 * hx) (2 * hy) p.1 p.2 = true) (hl : ∀ x ∈ xs, x.2.length ≤ 100000) (hn : xs.length ≤ 1000) (h : RowsAt w B 43 39 hE v xs) :
    Calls Try.prog 19 #[.agg #[.int .i64 lx, .int .i64 ly, .int .i64 hx, .int .i64 hy], v] w
      fun e w' => ∃ v' ys, e = .returned (.tuple #[v', .bool true]) ∧ ys.map Prod.snd = xs.map Prod.snd ∧ RowsAt w' w.heap.size 29 25 spotE v' ys ∧ Below w.heap.size w w' := by
  obtain ⟨i0, hi, hz0, hz1, hz2⟩ := info_parts Try.info39
  obtain ⟨i1, hi', hy0, hy1, hy2⟩ := info_parts Try.info43
  obtain ⟨ao, cap, g, rfl, hg, hc⟩ := h.read
  clear h
  go_enter Try.func19, Try.ntmps19
  go_wp2_with fail
  go_loopw [6, 16] (fun v i wr => ∃ (k : Nat) (ao' : Option Addr) (cap' : Nat) (ys : List (Value × List (Int × Int))), k ≤ xs.length ∧ i = .int .i64 k ∧ v = .slice ao' k cap' ∧ Hid (ys.map Prod.snd = (xs.take k).map Prod.snd ∧ ys.length = k) ∧
      wr.ownsRow (w.heap.size + 1) 43 1 (.slice ao' k cap') k (ys.map Prod.fst) ∧ (∀ y ∈ ys, RowAt wr 39 ptE y.1 y.2) ∧
      Blk wr w.heap.size #[.int .i64 lx, .int .i64 ly, .int .i64 hx, .int .i64 hy] 27 ∧ Below w.heap.size w wr)
    (fun _ i _ => xs.length - (intOf i).toNat)
  case atStart =>
    have ho0 := own_new (w.alloc (.cells #[.int .i64 lx, .int .i64 ly, .int .i64 hx, .int .i64 hy] 27)) (w.heap.size + 1) (by simp) 43 1 0 [] rfl (by omega)
    rw [World.size_alloc] at ho0
    exact ⟨0, _, _, [], Nat.zero_le _, rfl, rfl, ⟨rfl, rfl⟩, ho0, fun y hy => by simp at hy, (Blk.new _ _ _).alloc _, ((Below.refl _ _).alloc (Nat.le_refl _) _).alloc (by simp) _⟩
  case round =>
    obtain ⟨k, ao', cap', ys, hk, rfl, rfl, HY, hown, hrow, hbox, hbel⟩ := hrel
    by_cases hlt : k < xs.length
    · obtain ⟨rfl, hgs, _⟩ := hg (by omega)
      obtain ⟨aq, cq, hv, c0, ho⟩ := hc k hlt
      have d0 : wr.cell? ⟨g, k, none⟩ = some (.slice aq xs[k].2.length cq) := (hbel.cell (by exact hgs)).trans c0
      have ho := own_below ho hbel (Nat.le_refl _)
      have hip := hin xs[k] (List.getElem_mem _)
      have hlp := hl xs[k] (List.getElem_mem _)
      obtain ⟨ps, hp⟩ : ∃ ps, ps = xs[k].2 := ⟨_, rfl⟩
      rw [← hp] at d0 ho hip hlp
      have HP : Hid (ps = xs[k].2) := hp
      have hsz := hbel.size
      clear hp hv c0 hc hg hl hin
      obtain ⟨wz, hwz⟩ : ∃ wz, wz = wr := ⟨_, rfl⟩
      subst hwz
      obtain ⟨g1, hg1, hc1⟩ := hpts_read ho
      go_wp2_with fail
      have hI0 := own_new wz wz.heap.size (Nat.le_refl _) 39 2 0 [] rfl (by omega)
      go_loopw [9, 23] (fun v9 i wq => ∃ (j : Nat) (a2 : Option Addr) (c2 : Nat), j ≤ ps.length ∧ i = .int .i64 j ∧ v9 = .slice a2 j c2 ∧ wq.ownsRow wz.heap.size 39 2 (.slice a2 j c2) j ((ps.take j).flatMap ptE) ∧ Below wz.heap.size wz wq) (fun _ i _ => ps.length - (intOf i).toNat)
      case atStart => exact ⟨0, _, _, Nat.zero_le _, rfl, rfl, hI0, (Below.refl _ _).alloc (Nat.le_refl _) _⟩
      case round =>
        obtain ⟨j, a2, c2, hj, rfl, rfl, hownq, hbq⟩ := hrel
        have hsq := hbq.size
        by_cases hjl : j < ps.length
        · obtain ⟨rfl, hgs1, _⟩ := hg1 (by omega)
          obtain ⟨p0, p1⟩ := hc1 j hjl
          have p0 := (hbq.cell (by exact hgs1)).trans p0
          have p1 := (hbq.cell (by exact hgs1)).trans p1
          have hpj := hasB_iff.1 (hip _ (List.getElem_mem hjl))
          have HPS := take_map_flat ps j hjl
          obtain ⟨p, hp⟩ : ∃ p, p = ps[j] := ⟨_, rfl⟩
          rw [← hp] at p0 p1 hpj HPS
          have HPS2 : Hid ((ps.take (j + 1)).flatMap ptE = (ps.take j).flatMap ptE ++ [.float .f64 (F p.1), .float .f64 (F p.2)]) := HPS
          obtain ⟨XS, hXS⟩ : ∃ XS, XS = (ps.take j).flatMap ptE := ⟨_, rfl⟩
          rw [← hXS] at hownq HPS2
          have s1 : Sm p.1 := by unfold Sm; omega
          have s2 : Sm p.2 := by unfold Sm; omega
          clear hp hc1 hg1 HPS hXS hI0
          have hB2 : wz.heap.size ≤ wr.heap.size := hsq
          go_wp2_with (at_builtin; refine wpList_push rfl _ _ 43 rfl 39 i0 _ 2 16 Try.underlying43 hi hz0 hz1 hz2 rfl (by decide) (by decide) wz _ wz.heap.size _ j XS rfl (hownq.alloc _) wz.heap.size (below_alloc hbq _ (Nat.le_refl _)) (Nat.le_refl _) (by simp; omega) (by omega) [_, _] _ _ (by simp) 1 rfl rfl (by simp [Value.oneCell']) ?_)
          intro g' cap'' w1 hown1 hbel1 _ _ _ _
          have hown2 : w1.ownsRow wz.heap.size 39 2 (.slice (some ⟨g', 0, none⟩) (j + 1) cap'') (j + 1) ((ps.take (j + 1)).flatMap ptE) := by rw [HPS2.out]; exact hown1
          clear hown1 hownq p0 p1 HPS2
          go_wp2_with fail
          go_roundw
          case rel => exact ⟨j + 1, _, _, by omega, by go_num, rfl, hown2, hbel1⟩
          case measure => simp [intOf]; omega
        · obtain rfl : j = ps.length := by omega
          rw [List.take_length] at hownq
          have hown1 := own_below hown hbq (Nat.le_refl _)
          have hrow1 : ∀ y ∈ ys, RowAt wr 39 ptE y.1 y.2 := fun y hm => (hrow y hm).below hbq (Nat.le_refl _)
          have hbox1 := hbox.below hbq hbox.lt
          have hbel1 := hbel.trans (hbq.mono hsz)
          have ho1 := own_mono hownq (Nat.zero_le _)
          have hs1 := hbel1.size
          have hbl := hbox1.lt
          clear hown hrow hbox hbel hownq hbq hg1 hc1 hI0
          go_wp2_with (at_builtin; refine wpList_push rfl _ _ 46 rfl 43 i1 _ 1 24 Try.underlying46 hi' hy0 hy1 hy2 rfl (by decide) (by decide) w _ (w.heap.size + 1) _ k _ rfl hown1 w.heap.size hbel1 (Nat.le_succ _) hbl (by omega) [_] _ _ (by simp) 1 rfl rfl (by simp [Value.oneCell']) ?_)
          intro g' cap'' w3 hown3 hbel3 hsz3 hgr _ _
          have hbox3 := (hbox1.alloc _).grown hgr (fun e => by have := (hown1.lt _ e.symm).1; omega)
          have hrow3 : ∀ y ∈ ys ++ [(Value.slice a2 ps.length c2, ps)], RowAt w3 39 ptE y.1 y.2 := fun y hm => by
            rcases List.mem_append.1 hm with hm | hm
            · exact ((hrow1 y hm).alloc _).grown (hown1.alloc _) (by decide) hgr
            · rw [List.mem_singleton.1 hm]
              exact ⟨_, _, rfl, own_grown (ho1.alloc _) (hown1.alloc _) (by decide) hgr⟩
          have hown3' : w3.ownsRow (w.heap.size + 1) 43 1 (.slice (some ⟨g', 0, none⟩) (k + 1) cap'') (k + 1) ((ys ++ [(Value.slice a2 ps.length c2, ps)]).map Prod.fst) := by rw [List.map_append]; exact hown3
          have HY3 : Hid ((ys ++ [(Value.slice a2 ps.length c2, ps)]).map Prod.snd = (xs.take (k + 1)).map Prod.snd ∧ (ys ++ [(Value.slice a2 ps.length c2, ps)]).length = k + 1) := by
            refine ⟨?_, by rw [List.length_append, HY.out.2]; rfl⟩
            rw [List.take_succ_eq_append_getElem hlt, List.map_append, List.map_append, HY.out.1, HP.out]
            rfl
          clear hown3 hgr hown1 hrow1 hbox1 hbel1 ho1
          go_wp2_with fail
          go_roundw
          case rel => exact ⟨k + 1, _, _, _, by omega, by go_num, rfl, HY3, hown3', hrow3, hbox3, hbel3⟩
          case measure => simp [intOf]; omega
    · obtain rfl : k = xs.length := by omega
      have hY2 := HY.out
      rw [List.take_length] at hY2
      have HYS : Hid (ys.map Prod.snd = xs.map Prod.snd ∧ ys.length = xs.length) := hY2
      have e0 : wr.cell? ⟨w.heap.size, 0, none⟩ = some (.int .i64 lx) := hbox.cell 0
      have e1 : wr.cell? ⟨w.heap.size, 1, none⟩ = some (.int .i64 ly) := hbox.cell 1
      have e2 : wr.cell? ⟨w.heap.size, 2, none⟩ = some (.int .i64 hx) := hbox.cell 2
      have e3 : wr.cell? ⟨w.heap.size, 3, none⟩ = some (.int .i64 hy) := hbox.cell 3
      have hsz := hbel.size
      have HRA : Hid (RowsAt wr 0 43 39 ptE (.slice ao' xs.length cap') ys) := ⟨ao', cap', by rw [hY2.2], by rw [hY2.2]; exact own_mono hown (Nat.zero_le _), hrow⟩
      have HIN : Hid (∀ x ∈ ys, (∀ p ∈ x.2, hasB (2 * lx) (2 * ly) (2 * hx) (2 * hy) p.1 p.2 = true) ∧ x.2.length ≤ 100000) := fun x hx => by
        have : x.2 ∈ xs.map Prod.snd := by rw [← hY2.1]; exact List.mem_map.2 ⟨x, hx, rfl⟩
        obtain ⟨y, hy, e⟩ := List.mem_map.1 this
        rw [← e]
        exact ⟨hin y hy, hl y hy⟩
      have htw := own_new wr wr.heap.size (Nat.le_refl _) 25 2 2 ([(lx, ly), (hx, hy)].flatMap spotE) rfl (by omega)
      have hnr : ∀ p ∈ [(lx, ly), (hx, hy)], Near p := fun p hp => by
        simp only [List.mem_cons, List.not_mem_nil, or_false] at hp
        rcases hp with rfl | rfl <;> (unfold Near; simp only; omega)
      clear hin hl hY2 HY hg hc hown hrow
      go_wp2_with fail
      refine (twice_any _ _ [(lx, ly), (hx, hy)] _ _ (by simp) hnr htw).mono ?_
      rintro e w1 ⟨a1, c1, rfl, ho1, hb1⟩
      have hB1 : Below w.heap.size w w1 := (below_alloc hbel _ (Nat.le_refl _)).trans (hb1.mono (by simp; omega))
      have HR1 : Hid (RowsAt w1 0 43 39 ptE (.slice ao' xs.length cap') ys) := (HRA.out.alloc _).below hb1 (Nat.le_refl _)
      obtain ⟨gb, hgb, hcb⟩ := spots_read ho1
      obtain ⟨rfl, hgl, _⟩ := hgb (by simp)
      obtain ⟨k0, k1⟩ := hcb 0 (by simp)
      obtain ⟨k2, k3⟩ := hcb 1 (by simp)
      have k0 : w1.cell? ⟨gb, 0, none⟩ = some (.int .i64 (2 * lx)) := k0
      have k1 : w1.cell? ⟨gb, 1, none⟩ = some (.int .i64 (2 * ly)) := k1
      have k2 : w1.cell? ⟨gb, 2, none⟩ = some (.int .i64 (2 * hx)) := k2
      have k3 : w1.cell? ⟨gb, 3, none⟩ = some (.int .i64 (2 * hy)) := k3
      have HS : Hid (∀ W, Below w1.heap.size w1 W → (W.cell? ⟨gb, 0, none⟩ = some (.int .i64 (2 * lx)) ∧ W.cell? ⟨gb, 1, none⟩ = some (.int .i64 (2 * ly)) ∧ W.cell? ⟨gb, 2, none⟩ = some (.int .i64 (2 * hx)) ∧ W.cell? ⟨gb, 3, none⟩ = some (.int .i64 (2 * hy)))) :=
        fun W hb => ⟨cell_later hb k0, cell_later hb k1, cell_later hb k2, cell_later hb k3⟩
      have hrg := fun W hW => rings_any (2 * lx) (2 * ly) (2 * hx) (2 * hy) (by omega) (by omega) (.slice ao' xs.length cap') ys 0 W (fun x hx => (HIN.out x hx).1) (fun x hx => (HIN.out x hx).2) (by rw [HYS.out.2]; exact hn) hW
      clear hb1 htw hnr hgb hcb ho1 HRA e0 e1 e2 e3 hbox
      go_wp2_with fail
      go_region_held3 (fun W => (W.cell? ⟨gb, 0, none⟩ = some (.int .i64 (2 * lx)) ∧ W.cell? ⟨gb, 1, none⟩ = some (.int .i64 (2 * ly)) ∧ W.cell? ⟨gb, 2, none⟩ = some (.int .i64 (2 * hx)) ∧ W.cell? ⟨gb, 3, none⟩ = some (.int .i64 (2 * hy))))
        ((refine HS.out _ ?_; repeat (first | with_reducible assumption | with_reducible exact Below.refl _ _ | with_reducible refine Below.drew ?_ | with_reducible refine below_drewN ?_ _ | with_reducible refine below_alloc ?_ _ (Nat.le_refl _))))
        (first
          | (go_at_call 31
             with_reducible refine (hrg _ (HR1.out.below (C := w1.heap.size) (by repeat (first | with_reducible assumption | with_reducible exact Below.refl _ _ | with_reducible refine Below.drew ?_ | with_reducible refine below_drewN ?_ _ | with_reducible refine below_alloc ?_ _ (Nat.le_refl _))) (Nat.le_refl _))).mono ?_
             rintro e wA ⟨vA, zs, rfl, hzs, hrA, hbA⟩
             have hBA : Below w1.heap.size w1 wA := below_step (by repeat (first | with_reducible assumption | with_reducible exact Below.refl _ _ | with_reducible refine Below.drew ?_ | with_reducible refine below_drewN ?_ _ | with_reducible refine below_alloc ?_ _ (Nat.le_refl _))) hbA
             have hrA2 : RowsAt wA w.heap.size 29 25 spotE vA zs := hrA.mono (Nat.le_trans hB1.size (by simp))))
      all_goals go_wp2_with fail
      all_goals go_ret2
      all_goals exact ⟨vA, zs, rfl, hzs.trans HYS.out.1, hrA2, hB1.trans (hBA.mono hB1.size)⟩
end Go.Proofs.Ytafanlbfbfbeoaa

/- Twice the area within a ring of points. -/
namespace Go.Proofs.Ytafanlbfbfbeoaa
open Go.RowKit

def areaP (a b : Int × Int) : Int := a.1 * b.2 - b.1 * a.2

def areaR : Int × Int → List (Int × Int) → Int
  | _, [] => 0
  | q, p :: ps => areaP q p + areaR p ps

def areaL (ps : List (Int × Int)) : Int := areaR (ps.headD (0, 0)) (rotL ps)

theorem area_append : ∀ (q : Int × Int) (a b : List (Int × Int)), areaR q (a ++ b) = areaR q a + areaR (lastOr q a) b
  | q, [], b => by simp [areaR, lastOr]
  | q, x :: a, b => by rw [List.cons_append, areaR, areaR, area_append x a b, lastOr_cons]; omega

theorem areaP_bd {a b : Int × Int} (ha : Near a) (hb : Near b) : (-9000000 ≤ a.1 * b.2 ∧ a.1 * b.2 ≤ 9000000) ∧ (-9000000 ≤ b.1 * a.2 ∧ b.1 * a.2 ≤ 9000000) := by
  obtain ⟨⟨n1, n2⟩, n3, n4⟩ := ha
  obtain ⟨⟨n5, n6⟩, n7, n8⟩ := hb
  have h : ∀ p q : Int, -3000 ≤ p → p ≤ 3000 → -3000 ≤ q → q ≤ 3000 → -9000000 ≤ p * q ∧ p * q ≤ 9000000 := fun p q h1 h2 h3 h4 => by
    have h1 : (p * q).natAbs ≤ 3000 * 3000 := by
      rw [Int.natAbs_mul]
      exact Nat.mul_le_mul (by omega) (by omega)
    omega
  exact ⟨h _ _ n1 n2 n7 n8, h _ _ n5 n6 n3 n4⟩

theorem area_bd : ∀ (l : List (Int × Int)) (q : Int × Int), Near q → (∀ p ∈ l, Near p) → -(18000000 * (l.length : Int)) ≤ areaR q l ∧ areaR q l ≤ 18000000 * l.length
  | [], q, _, _ => by simp [areaR]
  | p :: l, q, hq, hl => by
    have h1 := areaP_bd hq (hl p (by simp))
    have h2 := area_bd l p (hl p (by simp)) fun u hu => hl u (by simp [hu])
    simp only [areaR, List.length_cons, areaP]
    omega

theorem area_wrap {c : Int} {a b : Int × Int} (ha : Near a) (hb : Near b) (hc : -4000000000000 ≤ c ∧ c ≤ 4000000000000) : wrap64 (c + wrap64 (wrap64 (a.1 * b.2) - wrap64 (b.1 * a.2))) = c + areaP a b := by
  obtain ⟨m1, m2⟩ := areaP_bd ha hb
  unfold areaP
  generalize a.1 * b.2 = P at *
  generalize b.1 * a.2 = R at *
  have w1 : wrap64 P = P := by simp only [wrap64]; omega
  have w2 : wrap64 R = R := by simp only [wrap64]; omega
  rw [w1, w2]
  have w3 : wrap64 (P - R) = P - R := by simp only [wrap64]; omega
  rw [w3]
  simp only [wrap64]; omega

set_option maxRecDepth 100000 in
set_option maxHeartbeats 2000000 in
theorem area_any (ao : Option Addr) (cap : Nat) (ps : List (Int × Int)) (B : Nat) (w : World) (hl : ps.length ≤ 100000) (hn : ∀ p ∈ ps, Near p) (h : w.ownsRow B 25 2 (.slice ao ps.length cap) ps.length (ps.flatMap spotE)) :
    Calls Try.prog 16 #[.slice ao ps.length cap] w
      fun e w' => e = .returned (.int .i64 (areaL ps)) ∧ Below w.heap.size w w' := by
  have hnh : Near (ps.headD (0, 0)) := by
    cases ps with
    | nil => exact ⟨by decide, by decide⟩
    | cons p ps => exact hn p (by simp)
  have hnr : ∀ p ∈ rotL ps, Near p := fun p hp => by
    cases ps with
    | nil => simp [rotL] at hp
    | cons q ps => exact hn p (by simp only [rotL, List.mem_append, List.mem_singleton] at hp; simp only [List.mem_cons]; exact hp.symm)
  obtain ⟨g, hg, hc⟩ := spots_read h
  clear h
  go_enter Try.func16, Try.ntmps16
  go_wp2_with fail
  go_loopw [3, 9] (fun v i wr => ∃ (k : Nat) (c : Int), k ≤ ps.length ∧ i = .int .i64 k ∧ v = .int .i64 c ∧ Hid (c = areaR (ps.headD (0, 0)) ((rotL ps).take k)) ∧ Below w.heap.size w wr)
    (fun _ i _ => ps.length - (intOf i).toNat)
  case atStart => exact ⟨0, 0, Nat.zero_le _, rfl, rfl, rfl, Below.refl _ _⟩
  case round =>
    obtain ⟨k, c, hk, rfl, rfl, HC, hbel⟩ := hrel
    by_cases hlt : k < ps.length
    · obtain ⟨rfl, hgs, _⟩ := hg (by omega)
      have hmod : (k + 1) % ps.length < ps.length := Nat.mod_lt _ (by omega)
      obtain ⟨c0, c1⟩ := hc k hlt
      obtain ⟨c2, c3⟩ := hc _ hmod
      have d0 : wr.cell? ⟨g, k * 2, none⟩ = some (.int .i64 ps[k].1) := (hbel.cell (by exact hgs)).trans c0
      have d1 : wr.cell? ⟨g, k * 2 + 1, none⟩ = some (.int .i64 ps[k].2) := (hbel.cell (by exact hgs)).trans c1
      have d2 : wr.cell? ⟨g, (k + 1) % ps.length * 2, none⟩ = some (.int .i64 ps[(k + 1) % ps.length].1) := (hbel.cell (by exact hgs)).trans c2
      have d3 : wr.cell? ⟨g, (k + 1) % ps.length * 2 + 1, none⟩ = some (.int .i64 ps[(k + 1) % ps.length].2) := (hbel.cell (by exact hgs)).trans c3
      have hgw : g < wr.heap.size := Nat.lt_of_lt_of_le hgs hbel.size
      obtain ⟨a, ha⟩ : ∃ a, a = ps[k] := ⟨_, rfl⟩
      obtain ⟨b, hb⟩ : ∃ b, b = ps[(k + 1) % ps.length] := ⟨_, rfl⟩
      rw [← ha] at d0 d1
      rw [← hb] at d2 d3
      have hna : Near a := by rw [ha]; exact hn _ (List.getElem_mem _)
      have hnb : Near b := by rw [hb]; exact hn _ (List.getElem_mem _)
      have HAB : Hid (a = ps[k] ∧ b = (rotL ps)[k]'(by rw [rot_len]; exact hlt)) := ⟨ha, hb.trans (rot_get hlt).symm⟩
      obtain ⟨j, hj⟩ : ∃ j, j = (k + 1) % ps.length := ⟨_, rfl⟩
      rw [← hj] at d2 d3
      have hjl : j < ps.length := by rw [hj]; exact hmod
      have hji : ((k : Int) + 1).tmod (ps.length : Int) = (j : Int) := by rw [hj, Int.tmod_eq_emod_of_nonneg (by omega)]; simp
      clear c0 c1 c2 c3 hc ha hb hj hmod
      go_wp2_with fail
      go_cut [5, 6] (fun s3 s4 wc => ∃ g3 g4 : Nat, s3 = .pointer (some ⟨g3, 0, none⟩) ∧ s4 = .pointer (some ⟨g4, 0, none⟩) ∧ Blk wc g3 #[.int .i64 a.1, .int .i64 a.2] 25 ∧ Blk wc g4 #[.int .i64 b.1, .int .i64 b.2] 25 ∧ Below w.heap.size w wc)
      case first =>
        have a0 : ∀ o, (wr.alloc o).cell? ⟨g, k * 2, none⟩ = some (.int .i64 a.1) := fun o => by rw [World.cell?_alloc_past _ _ _ hgw]; exact d0
        have a1 : ∀ o, (wr.alloc o).cell? ⟨g, k * 2 + 1, none⟩ = some (.int .i64 a.2) := fun o => by rw [World.cell?_alloc_past _ _ _ hgw]; exact d1
        have a2 : ∀ o, (wr.alloc o).cell? ⟨g, j * 2, none⟩ = some (.int .i64 b.1) := fun o => by rw [World.cell?_alloc_past _ _ _ hgw]; exact d2
        have a3 : ∀ o, (wr.alloc o).cell? ⟨g, j * 2 + 1, none⟩ = some (.int .i64 b.2) := fun o => by rw [World.cell?_alloc_past _ _ _ hgw]; exact d3
        go_region
        all_goals go_wp2_with fail
        all_goals go_meet
        · refine ⟨_, _, rfl, rfl, ((Blk.new wr #[.int .i64 a.1, .int .i64 a.2] 25).alloc _).drew, ?_, ((hbel.alloc hbel.size _).alloc (by have := hbel.size; simp; omega) _).drew⟩
          have hh := Blk.new (wr.alloc (.cells #[.int .i64 a.1, .int .i64 a.2] 25)) #[.int .i64 b.1, .int .i64 b.2] 25
          simp only [World.size_alloc] at hh
          exact hh.drew
        · refine ⟨_, _, rfl, rfl, ?_, ((Blk.new wr #[.int .i64 b.1, .int .i64 b.2] 25).alloc _).drew, ((hbel.alloc hbel.size _).alloc (by have := hbel.size; simp; omega) _).drew⟩
          have hh := Blk.new (wr.alloc (.cells #[.int .i64 b.1, .int .i64 b.2] 25)) #[.int .i64 a.1, .int .i64 a.2] 25
          simp only [World.size_alloc] at hh
          exact hh.drew
      case rest =>
        obtain ⟨g3, g4, rfl, rfl, b3, b4, hbc⟩ := hcut
        clear d0 d1 d2 d3 hgw hji hjl
        have x0 : wc.cell? ⟨g3, 0, none⟩ = some (.int .i64 a.1) := b3.cell 0
        have x1 : wc.cell? ⟨g3, 1, none⟩ = some (.int .i64 a.2) := b3.cell 1
        have y0 : wc.cell? ⟨g4, 0, none⟩ = some (.int .i64 b.1) := b4.cell 0
        have y1 : wc.cell? ⟨g4, 1, none⟩ = some (.int .i64 b.2) := b4.cell 1
        have hareaw := area_wrap (c := c) hna hnb
        have hcb : -4000000000000 ≤ c ∧ c ≤ 4000000000000 := by
          have h := area_bd ((rotL ps).take k) (ps.headD (0, 0)) hnh (fun p hp => hnr p (List.mem_of_mem_take hp))
          rw [← HC.out, List.length_take] at h
          omega
        have hareaw := hareaw hcb
        go_wp2_with fail
        clear x0 x1 y0 y1 b3 b4
        have HN : Hid (areaR (ps.headD (0, 0)) ((rotL ps).take (k + 1)) = c + areaP a b) := by
          show _ = _
          rw [List.take_succ_eq_append_getElem (by rw [rot_len]; exact hlt), area_append, ← HC.out, ← HAB.out.2]
          have hla : lastOr (ps.headD (0, 0)) ((rotL ps).take k) = a := by rw [rot_last hlt]; exact HAB.out.1.symm
          rw [hla]
          simp [areaR]
        go_wp2_with fail
        go_roundw
        case rel => exact ⟨k + 1, c + areaP a b, by omega, by go_num, by rw [← hareaw], HN.out.symm, hbc⟩
        case measure => simp [intOf]; omega
    · obtain rfl : k = ps.length := by omega
      have hW : Hid (c = areaL ps) := by
        show _ = _
        have hC := HC.out
        rw [← rot_len ps, List.take_length] at hC
        exact hC
      go_wp2
      go_ret
      exact ⟨by rw [hW.out]; rfl, hbel⟩
end Go.Proofs.Ytafanlbfbfbeoaa


namespace Go.Proofs.Ytafanlbfbfbeoaa
open Go.RowKit

set_option maxRecDepth 100000 in
set_option maxHeartbeats 400000 in
theorem plainMulti_any (ao : Option Addr) (cap : Nat) (ps : List (Int × Int)) (B : Nat) (w : World) (hl : ps.length ≤ 100000000) (h : w.ownsRow B 69 2 (.slice ao ps.length cap) ps.length (ps.flatMap ptE)) :
    Calls Try.prog 32 #[.slice ao ps.length cap] w fun e w' => ∃ ao' cap', e = .returned (.slice ao' ps.length cap') ∧ w'.ownsRow w.heap.size 39 2 (.slice ao' ps.length cap') ps.length (ps.flatMap ptE) ∧ Below w.heap.size w w' := by
  obtain ⟨i0, hi, hz0, hz1, hz2⟩ := info_parts Try.info39
  obtain ⟨g, hg, hc⟩ := pts_read h
  clear h
  go_enter Try.func32, Try.ntmps32
  go_wp2
  go_loopw [3, 9] (fun v i wr => ∃ (k : Nat) (ao' : Option Addr) (cap' : Nat), k ≤ ps.length ∧ i = .int .i64 k ∧ v = .slice ao' k cap' ∧ wr.ownsRow w.heap.size 39 2 (.slice ao' k cap') k ((ps.take k).flatMap ptE) ∧ Below w.heap.size w wr)
    (fun _ i _ => ps.length - (intOf i).toNat)
  case atStart => exact ⟨0, _, _, Nat.zero_le _, rfl, rfl, own_new w _ (Nat.le_refl _) 39 2 0 [] rfl (by omega), (Below.refl _ _).alloc (Nat.le_refl _) _⟩
  case round =>
    obtain ⟨k, ao', cap', hk, rfl, rfl, hown, hbel⟩ := hrel
    have hsz := hbel.size
    by_cases hlt : k < ps.length
    · obtain ⟨rfl, hgs, _⟩ := hg (by omega)
      obtain ⟨c0, c1⟩ := hc k hlt
      have d0 : wr.cell? ⟨g, k * 2, none⟩ = some (.float .f64 (F ps[k].1)) := (hbel.cell (by exact hgs)).trans c0
      have d1 : wr.cell? ⟨g, k * 2 + 1, none⟩ = some (.float .f64 (F ps[k].2)) := (hbel.cell (by exact hgs)).trans c1
      clear c0 c1 hg hc
      go_wp2_with (at_builtin; refine wpList_push rfl _ _ 43 rfl 39 i0 _ 2 16 Try.underlying43 hi hz0 hz1 hz2 rfl (by decide) (by decide) w _ w.heap.size _ k _ rfl (hown.alloc _) w.heap.size (below_alloc hbel _ (Nat.le_refl _)) (Nat.le_refl _) (by simp; omega) (by omega) [_, _] _ _ (by simp) 1 rfl rfl (by simp [Value.oneCell']) ?_)
      intro g' cap'' w1 hown1 hbel1 _ _ _ _
      have hown2 : w1.ownsRow w.heap.size 39 2 (.slice (some ⟨g', 0, none⟩) (k + 1) cap'') (k + 1) ((ps.take (k + 1)).flatMap ptE) := by rw [← take_snoc_flat ptE ps k hlt]; exact hown1
      clear hown1 hown d0 d1
      go_wp2
      go_roundw
      case rel => exact ⟨k + 1, _, _, by omega, by go_num, rfl, hown2, hbel1⟩
      case measure => simp [intOf]; omega
    · obtain rfl : k = ps.length := by omega
      rw [List.take_length] at hown
      go_wp2
      go_ret
      exact ⟨_, _, rfl, hown, hbel⟩
end Go.Proofs.Ytafanlbfbfbeoaa

/- The points that are in a box. -/
namespace Go.Proofs.Ytafanlbfbfbeoaa
open Go.RowKit

set_option maxRecDepth 100000 in
set_option maxHeartbeats 1000000 in
theorem contains_any (lx ly hx hy x y : Int) (h1 : Sm lx) (h2 : Sm ly) (h3 : Sm hx) (h4 : Sm hy) (h5 : Sm x) (h6 : Sm y) (w : World) :
    Calls Try.prog 43 #[.agg #[.float .f64 (F lx), .float .f64 (F ly), .float .f64 (F hx), .float .f64 (F hy)], .agg #[.float .f64 (F x), .float .f64 (F y)]] w
      fun e w' => e = .returned (.bool (hasB lx ly hx hy x y)) ∧ Below w.heap.size w w' := by
  go_enter Try.func43, Try.ntmps43
  go_wp2
  all_goals
    go_ret
    refine ⟨ret_bool ?_, ((Below.refl _ _).alloc (Nat.le_refl _) _).alloc (by simp) _⟩
    unfold hasB
    simp
    try omega

set_option maxRecDepth 100000 in
set_option maxHeartbeats 1000000 in
theorem multi_any (lx ly hx hy : Int) (h1 : Sm lx) (h2 : Sm ly) (h3 : Sm hx) (h4 : Sm hy) (ao : Option Addr) (cap : Nat) (ps : List (Int × Int)) (B : Nat) (w : World) (hs : ∀ p ∈ ps, Sm p.1 ∧ Sm p.2) (hl : ps.length ≤ 100000000)
    (h : w.ownsRow B 69 2 (.slice ao ps.length cap) ps.length (ps.flatMap ptE)) :
    Calls Try.prog 33 #[.agg #[.float .f64 (F lx), .float .f64 (F ly), .float .f64 (F hx), .float .f64 (F hy)], .slice ao ps.length cap] w
      fun e w' => ∃ ao' cap', e = .returned (.slice ao' (ps.filter fun p => hasB lx ly hx hy p.1 p.2).length cap') ∧
        w'.ownsRow w.heap.size 69 2 (.slice ao' (ps.filter fun p => hasB lx ly hx hy p.1 p.2).length cap') (ps.filter fun p => hasB lx ly hx hy p.1 p.2).length ((ps.filter fun p => hasB lx ly hx hy p.1 p.2).flatMap ptE) ∧ Below w.heap.size w w' := by
  obtain ⟨i0, hi, hz0, hz1, hz2⟩ := info_parts Try.info69
  obtain ⟨g, hg, hc⟩ := pts_read h
  clear h
  go_enter Try.func33, Try.ntmps33
  go_wp2
  go_loopw [5, 10] (fun v i wr => ∃ (k : Nat) (ao' : Option Addr) (cap' : Nat), k ≤ ps.length ∧ i = .int .i64 k ∧ v = .slice ao' ((ps.take k).filter fun p => hasB lx ly hx hy p.1 p.2).length cap' ∧
      wr.ownsRow (w.heap.size + 1) 69 2 (.slice ao' ((ps.take k).filter fun p => hasB lx ly hx hy p.1 p.2).length cap') ((ps.take k).filter fun p => hasB lx ly hx hy p.1 p.2).length (((ps.take k).filter fun p => hasB lx ly hx hy p.1 p.2).flatMap ptE) ∧
      Blk wr w.heap.size #[.float .f64 (F lx), .float .f64 (F ly), .float .f64 (F hx), .float .f64 (F hy)] 71 ∧ Below w.heap.size w wr)
    (fun _ i _ => ps.length - (intOf i).toNat)
  case atStart => exact ⟨0, none, 0, Nat.zero_le _, rfl, rfl, World.ownsRow_nil _ _ _ _, Blk.new _ _ _, (Below.refl _ _).alloc (Nat.le_refl _) _⟩
  case round =>
    obtain ⟨k, ao', cap', hk, rfl, rfl, hown, hbox, hbel⟩ := hrel
    have hsz := hbel.size
    have hlen : ((ps.take k).filter fun p => hasB lx ly hx hy p.1 p.2).length ≤ k := Nat.le_trans (List.length_filter_le _ _) (by rw [List.length_take]; omega)
    by_cases hlt : k < ps.length
    · obtain ⟨rfl, hgs, _⟩ := hg (by omega)
      obtain ⟨c0, c1⟩ := hc k hlt
      have d0 : wr.cell? ⟨g, k * 2, none⟩ = some (.float .f64 (F ps[k].1)) := (hbel.cell (by exact hgs)).trans c0
      have d1 : wr.cell? ⟨g, k * 2 + 1, none⟩ = some (.float .f64 (F ps[k].2)) := (hbel.cell (by exact hgs)).trans c1
      have e0 : wr.cell? ⟨w.heap.size, 0, none⟩ = some (.float .f64 (F lx)) := hbox.cell 0
      have e1 : wr.cell? ⟨w.heap.size, 1, none⟩ = some (.float .f64 (F ly)) := hbox.cell 1
      have e2 : wr.cell? ⟨w.heap.size, 2, none⟩ = some (.float .f64 (F hx)) := hbox.cell 2
      have e3 : wr.cell? ⟨w.heap.size, 3, none⟩ = some (.float .f64 (F hy)) := hbox.cell 3
      have hbl := hbox.lt
      have hps := hs ps[k] (List.getElem_mem _)
      clear c0 c1 hg hc
      have HT : Hid ((ps.take (k + 1)).filter (fun p => hasB lx ly hx hy p.1 p.2) = (ps.take k).filter (fun p => hasB lx ly hx hy p.1 p.2) ++ [ps[k]].filter (fun p => hasB lx ly hx hy p.1 p.2)) := by
        rw [List.take_succ_eq_append_getElem hlt, List.filter_append]; exact rfl
      generalize (ps.take k).filter (fun p => hasB lx ly hx hy p.1 p.2) = qs at *
      go_wp2_with fail
      refine (contains_any lx ly hx hy ps[k].1 ps[k].2 h1 h2 h3 h4 hps.1 hps.2 _).mono ?_
      rintro e w1 ⟨rfl, hb1⟩
      have hloop := (Blk.new wr #[.float .f64 (F ps[k].1), .float .f64 (F ps[k].2)] 69).below hb1 (by simp)
      have l0 : w1.cell? ⟨wr.heap.size, 0, none⟩ = some (.float .f64 (F ps[k].1)) := hloop.cell 0
      have l1 : w1.cell? ⟨wr.heap.size, 1, none⟩ = some (.float .f64 (F ps[k].2)) := hloop.cell 1
      have hown1 := own_below (hown.alloc (.cells #[.float .f64 (F ps[k].1), .float .f64 (F ps[k].2)] 69)) hb1 (Nat.le_refl _)
      have hbox1 := (hbox.alloc (.cells #[.float .f64 (F ps[k].1), .float .f64 (F ps[k].2)] 69)).below hb1 (by simp; omega)
      have hbel1 : Below w.heap.size w w1 := (hbel.alloc hsz (.cells #[.float .f64 (F ps[k].1), .float .f64 (F ps[k].2)] 69)).trans (hb1.mono (by simp; omega))
      have hsz1 : w.heap.size + 1 ≤ w1.heap.size := by have := hb1.size; simp at this; omega
      clear hb1 hown hbox hloop d0 d1
      by_cases hb : hasB lx ly hx hy ps[k].1 ps[k].2 = true
      · have hT2 := HT.out
        rw [List.filter_cons_of_pos (by exact hb), List.filter_nil] at hT2
        have HT3 : Hid _ := hT2
        clear hT2 HT
        go_wp2_with (at_builtin; refine wpList_push rfl _ _ 79 rfl 69 i0 _ 2 16 Try.underlying79 hi hz0 hz1 hz2 rfl (by decide) (by decide) w _ (w.heap.size + 1) _ qs.length _ rfl hown1 w.heap.size hbel1 (by omega) (by omega) (by omega) [_, _] _ _ (by simp) 1 rfl rfl (by simp [Value.oneCell']) ?_)
        intro g' cap'' w2 hown2 hbel2 _ hgr _ _
        have hbox2 := (hbox1.alloc (.cells #[.float .f64 (F ps[k].1), .float .f64 (F ps[k].2)] 69)).grown hgr (fun e => by have := (hown1.lt _ e.symm).1; omega)
        have hown3 : w2.ownsRow (w.heap.size + 1) 69 2 (.slice (some ⟨g', 0, none⟩) (qs.length + 1) cap'') (qs.length + 1) ((qs ++ [ps[k]]).flatMap ptE) := by rw [List.flatMap_append]; simpa [ptE] using hown2
        clear hown2 hown1 hbox1 l0 l1 hgr
        go_wp2
        go_roundw
        case rel => exact ⟨k + 1, _, _, by omega, by go_num, by rw [HT3.out, List.length_append]; rfl, by rw [HT3.out, List.length_append]; exact hown3, hbox2, hbel2⟩
        case measure => simp [intOf]; omega
      · have hb' : hasB lx ly hx hy ps[k].1 ps[k].2 = false := by simpa using hb
        have hT2 := HT.out
        rw [List.filter_cons_of_neg (by simpa using hb'), List.filter_nil, List.append_nil] at hT2
        have HT3 : Hid _ := hT2
        clear hT2 HT hb
        go_wp2
        go_roundw
        case rel => exact ⟨k + 1, _, _, by omega, by go_num, by rw [HT3.out], by rw [HT3.out]; exact hown1, hbox1, hbel1⟩
        case measure => simp [intOf]; omega
    · obtain rfl : k = ps.length := by omega
      rw [List.take_length] at hown hlen
      go_wp2
      rw [List.take_length]
      go_ret
      exact ⟨_, _, rfl, own_mono hown (by omega), hbel⟩

set_option maxRecDepth 100000 in
set_option maxHeartbeats 1000000 in
theorem implPoints_any (lx ly hx hy : Int) (h1 : Sm lx) (h2 : Sm ly) (h3 : Sm hx) (h4 : Sm hy) (ao : Option Addr) (cap : Nat) (ps : List (Int × Int)) (B : Nat) (w : World) (hs : ∀ p ∈ ps, Sm p.1 ∧ Sm p.2) (hl : ps.length ≤ 100000000)
    (h : w.ownsRow B 39 2 (.slice ao ps.length cap) ps.length (ps.flatMap ptE)) :
    Calls Try.prog 20 #[.agg #[.float .f64 (F lx), .float .f64 (F ly), .float .f64 (F hx), .float .f64 (F hy)], .slice ao ps.length cap] w
      fun e w' => ∃ ao' cap', e = .returned (.slice ao' (ps.filter fun p => hasB lx ly hx hy p.1 p.2).length cap') ∧
        w'.ownsRow w.heap.size 39 2 (.slice ao' (ps.filter fun p => hasB lx ly hx hy p.1 p.2).length cap') (ps.filter fun p => hasB lx ly hx hy p.1 p.2).length ((ps.filter fun p => hasB lx ly hx hy p.1 p.2).flatMap ptE) ∧ Below w.heap.size w w' := by
  have hlf : (ps.filter fun p => hasB lx ly hx hy p.1 p.2).length ≤ 100000000 := Nat.le_trans (List.length_filter_le _ _) hl
  go_enter Try.func20, Try.ntmps20
  go_wp2_with fail
  refine (bound_any lx ly hx hy _).mono ?_
  rintro e w1 ⟨rfl, hb1⟩
  have ho1 := own_below (h.alloc (.cells #[.float .f64 (F lx), .float .f64 (F ly), .float .f64 (F hx), .float .f64 (F hy)] 41)) hb1 (Nat.le_refl _)
  have hB1 : Below w.heap.size w w1 := ((Below.refl _ _).alloc (Nat.le_refl _) _).trans (hb1.mono (by simp))
  clear hb1 h
  go_wp2_with fail
  refine (points_any ao cap ps B _ hl ho1).mono ?_
  rintro e w2 ⟨ao2, cap2, rfl, ho2, hb2⟩
  have hB2 := hB1.trans (hb2.mono hB1.size)
  clear ho1 hb2
  go_wp2_with fail
  refine (multi_any lx ly hx hy h1 h2 h3 h4 ao2 cap2 ps _ _ hs hl ho2).mono ?_
  rintro e w3 ⟨ao3, cap3, rfl, ho3, hb3⟩
  have hB3 := hB2.trans (hb3.mono hB2.size)
  clear ho2 hb3
  go_wp2_with fail
  refine (plainMulti_any ao3 cap3 _ _ _ hlf ho3).mono ?_
  rintro e w4 ⟨ao4, cap4, rfl, ho4, hb4⟩
  have hB4 := hB3.trans (hb4.mono hB3.size)
  have ho5 := own_mono ho4 hB3.size
  clear ho3 hb4 ho4
  go_wp2_with fail
  go_ret
  exact ⟨_, _, rfl, ho5, hB4⟩
end Go.Proofs.Ytafanlbfbfbeoaa
