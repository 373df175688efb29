/- The walk of FnExactLines. -/
import Derived.Test.YtlakfamodfgmcaaWayB
import Derived.Test.YtlakfamodfgmcaaMw
import Derived.Test.YtlakfamodfgmcaaLm
import Derived.Test.YtlakfamodfgmcaaMp
import Derived.Test.YtlakfamodfgmcaaRp
import Derived.Deep.QuietTactic
import Derived.BigQuiet
namespace Go.Proofs.Ytlakfamodfgmcaa
open Go.RowKit

theorem below_step {wr W wA : World} (h : Below wr.heap.size wr W) (hA : Below W.heap.size W wA) : Below wr.heap.size wr wA := h.trans (hA.mono h.size)

set_option maxRecDepth 100000 in
set_option maxHeartbeats 2000000 in
theorem fnExactLines_walk (a0 a1 a2 a3 a4 a5 : Int) (a6 : Option Addr) (len6 cap6 : Nat) (z6 : List Int) (a7 a8 : Int) (a9 : Option Addr) (len9 cap9 : Nat) (z9 : List Int) (w : World) (h0 : -128 ≤ a0) (h0' : a0 ≤ 127) (h1 : -128 ≤ a1) (h1' : a1 ≤ 127) (h2 : -128 ≤ a2) (h2' : a2 ≤ 127) (h3 : -128 ≤ a3) (h3' : a3 ≤ 127)
    (h4 : -128 ≤ a4) (h4' : a4 ≤ 127) (h5 : -128 ≤ a5) (h5' : a5 ≤ 127) (w6 : IsRow .u8 w a6 len6 cap6 z6) (h7 : -128 ≤ a7) (h7' : a7 ≤ 127) (h8 : -128 ≤ a8) (h8' : a8 ≤ 127) (w9 : IsRow .u8 w a9 len9 cap9 z9) :
    Calls Try.prog 13 #[.int .i8 a0, .int .i8 a1, .int .i8 a2, .int .i8 a3, .int .i8 a4, .int .i8 a5, .slice a6 len6 cap6, .int .i8 a7, .int .i8 a8, .slice a9 len9 cap9] w fun e w' => e = .returned (.bool true) ∧ Below w.heap.size w w' := by
  by_cases hbig : 2147483647 < (len6 : Int)
  · clear w6 w9
    go_enter Try.func13, Try.ntmps13
    go_wp2
    all_goals
      go_ret
      exact ⟨rfl, Below.refl _ _⟩
  by_cases hbig9 : 2147483647 < (len9 : Int)
  · clear w6 w9
    go_enter Try.func13, Try.ntmps13
    go_wp2
    all_goals
      go_ret
      exact ⟨rfl, Below.refl _ _⟩
  have hbig' : (len6 : Int) ≤ 2147483647 := by omega
  have hbig9' : (len9 : Int) ≤ 2147483647 := by omega
  clear hbig hbig9
  go_enter Try.func13, Try.ntmps13
  go_wp2_with fail
  refine (box_any a0 a1 a2 a3 h0 h0' h1 h1' h2 h2' h3 h3' _).mono ?_
  rintro e w1 ⟨lx, ly, hx, hy, rfl, hbox, hb1⟩
  have hnear := hbox.near h0 h0' h1 h1' h2 h2' h3 h3'
  clear hbox h0 h0' h1 h1' h2 h2' h3 h3'
  have hbx := (Blk.new w1 #[.int .i64 lx, .int .i64 ly, .int .i64 hx, .int .i64 hy] 27)
  have hB1 : Below w.heap.size w (w1.alloc (.cells #[.int .i64 lx, .int .i64 ly, .int .i64 hx, .int .i64 hy] 27)) := below_alloc hb1 _ (Nat.le_refl _)
  obtain ⟨bx, hbx0⟩ : ∃ bx, bx = w1.heap.size := ⟨_, rfl⟩
  rw [← hbx0] at hbx
  go_wp2_with fail
  rw [← hbx0]
  refine (way_walk a4 a5 a6 len6 cap6 z6 h4 h4' h5 h5' _ (w6.below hB1)).mono ?_
  rintro e w2 ⟨ao2, cap2, ps, rfl, hpw, hps0, hps1, hps, ho2, hb2⟩
  have hoct : OctiL (ps.headD (0, 0)) ps := by rw [hpw, wayL_head]; exact way_octi _ _ _ (octi_self _)
  have hR1 := (line_spec (o := false) (lx := lx) (ly := ly) (hx := hx) (hy := hy) (by omega) (by omega) hoct).2
  have hoc : ∀ i (hi : i + 1 < ps.length), Octi ps[i] ps[i + 1] := fun i hi => octi_get hoct i hi
  have hbx2 := hbx.below hb2 hbx.lt
  have hB2 := hB1.trans (hb2.mono hB1.size)
  have hpl : ps.length ≤ 1000 := by omega
  clear hpw w6 h4 h4' h5 h5' hb2 hbx hbx0 hB1 hb1 hoct hps0 hps1
  go_wp2_with fail
  refine (specPoints_any ao2 cap2 ps _ _ (by omega) ho2).mono ?_
  rintro e w3 ⟨ao3, cap3, rfl, ho3, hb3⟩
  have hbx3 := hbx2.below hb3 hbx2.lt
  have hB3 := hB2.trans (hb3.mono hB2.size)
  clear hb3 ho2 hB2 hbx2
  go_wp2_with fail
  refine (way_walk a7 a8 a9 len9 cap9 z9 h7 h7' h8 h8' _ (w9.below hB3)).mono ?_
  rintro e w4 ⟨ao4, cap4, qs, rfl, hqw, hqs0, hqs1, hqs, ho4, hb4⟩
  have hoct : OctiL (qs.headD (0, 0)) qs := by rw [hqw, wayL_head]; exact way_octi _ _ _ (octi_self _)
  have hR2 := (line_spec (o := false) (lx := lx) (ly := ly) (hx := hx) (hy := hy) (by omega) (by omega) hoct).2
  have hocq : ∀ i (hi : i + 1 < qs.length), Octi qs[i] qs[i + 1] := fun i hi => octi_get hoct i hi
  have hbx4 := hbx3.below hb4 hbx3.lt
  have hop4 := own_below ho3 hb4 (Nat.le_refl _)
  have hB4 := hB3.trans (hb4.mono hB3.size)
  have hql : qs.length ≤ 1000 := by omega
  clear hqw w9 h7 h7' h8 h8' hb4 hbx3 hB3 ho3 hoct hqs0 hqs1
  go_wp2_with fail
  refine (specPoints_any ao4 cap4 qs _ _ (by omega) ho4).mono ?_
  rintro e w5 ⟨ao5, cap5, rfl, hoq, hb5⟩
  have hbx5 := hbx4.below hb5 hbx4.lt
  have hop := own_below hop4 hb5 (Nat.le_refl _)
  have hB5 := hB4.trans (hb5.mono hB4.size)
  clear hb5 ho4 hB4 hbx4 hop4
  have smb : (Sm lx ∧ Sm ly) ∧ (Sm hx ∧ Sm hy) := by unfold Sm; omega
  have himplp := fun ao cap B W hr => implLine2_any lx ly hx hy (by unfold Near; omega) (by unfold Near; omega) (by omega) (by omega) ao cap ps B W hpl hps hoc hr
  have himplq := fun ao cap B W hr => implLine2_any lx ly hx hy (by unfold Near; omega) (by unfold Near; omega) (by omega) (by omega) ao cap qs B W hql hqs hocq hr
  have hok : ∀ (a b : Value), ∀ x ∈ [(a, ps), (b, qs)], x.2.length ≤ 1000 ∧ (∀ p ∈ x.2, Near p) ∧ ∀ i (h : i + 1 < x.2.length), Octi x.2[i] x.2[i + 1] := fun a b x hxm => by
    simp only [List.mem_cons, List.not_mem_nil, or_false] at hxm
    rcases hxm with rfl | rfl
    · exact ⟨hpl, hps, hoc⟩
    · exact ⟨hql, hqs, hocq⟩
  have hlines := fun a b v B W hr => implLines_any lx ly hx hy (by unfold Near; omega) (by unfold Near; omega) (by omega) (by omega) v [(a, ps), (b, qs)] B W (by simp) (hok a b) hr
  simp only [List.map_cons, List.map_nil, List.flatMap_cons, List.flatMap_nil, List.append_nil] at hlines
  generalize lineL false lx ly hx hy ps = R1 at *
  generalize lineL false lx ly hx hy qs = R2 at *
  clear hok hoc hocq hps hqs
  have e0 : w5.cell? ⟨bx, 0, none⟩ = some (.int .i64 lx) := hbx5.cell 0
  have e1 : w5.cell? ⟨bx, 1, none⟩ = some (.int .i64 ly) := hbx5.cell 1
  have e2 : w5.cell? ⟨bx, 2, none⟩ = some (.int .i64 hx) := hbx5.cell 2
  have e3 : w5.cell? ⟨bx, 3, none⟩ = some (.int .i64 hy) := hbx5.cell 3
  go_wp2_with fail
  refine (of_any lx ly hx hy _).mono ?_
  rintro e w6 ⟨rfl, hb6⟩
  have hbx6 := hbx5.below hb6 hbx5.lt
  have hop6 := own_below hop hb6 (Nat.le_refl _)
  have hoq6 := own_below hoq hb6 (Nat.le_refl _)
  have hB6 := hB5.trans (hb6.mono hB5.size)
  clear hb6 hbx5 hop hoq hB5 e0 e1 e2 e3
  go_wp2_with fail
  refine (hlines (.slice ao3 ps.length cap3) (.slice ao5 qs.length cap5) _ 0 _ (rows_two (Nat.zero_le _) hop6 hoq6)).mono ?_
  rintro e w7 ⟨v7, ys, rfl, hys, hr7, hb7⟩
  have hbx7 := (hbx6.alloc (.cells #[.slice ao3 ps.length cap3, .slice ao5 qs.length cap5] 34)).below hb7 (by simp; exact Nat.lt_succ_of_lt hbx6.lt)
  have hop7 := own_below (hop6.alloc (.cells #[.slice ao3 ps.length cap3, .slice ao5 qs.length cap5] 34)) hb7 (Nat.le_refl _)
  have hoq7 := own_below (hoq6.alloc (.cells #[.slice ao3 ps.length cap3, .slice ao5 qs.length cap5] 34)) hb7 (Nat.le_refl _)
  have hB7 := (below_alloc hB6 (.cells #[.slice ao3 ps.length cap3, .slice ao5 qs.length cap5] 34) (Nat.le_refl _)).trans (hb7.mono (by have := hB6.size; simp; omega))
  clear hb7 hbx6 hop6 hoq6 hB6 hlines
  obtain ⟨i0, hi, hz0, hz1, hz2⟩ := info_parts Try.info34
  obtain ⟨wr, rfl⟩ : ∃ wr, wr = w7 := ⟨_, rfl⟩
  have e0 : wr.cell? ⟨bx, 0, none⟩ = some (.int .i64 lx) := hbx7.cell 0
  have e1 : wr.cell? ⟨bx, 1, none⟩ = some (.int .i64 ly) := hbx7.cell 1
  have e2 : wr.cell? ⟨bx, 2, none⟩ = some (.int .i64 hx) := hbx7.cell 2
  have e3 : wr.cell? ⟨bx, 3, none⟩ = some (.int .i64 hy) := hbx7.cell 3
  go_upto_region 6 with fail
  go_cut [25] (fun v wc => ∃ zs : List (Value × List (Int × Int)), zs.map Prod.snd = R1 ++ R2 ∧ (∀ z ∈ zs, z.2.length ≤ 2000) ∧ zs.length ≤ 3000 ∧ RowsAt wc 0 34 38 ptE v zs ∧ Below wr.heap.size wr wc)
  case first =>
    have HS : Hid (∀ W, Below wr.heap.size wr W → (W.cell? ⟨bx, 0, none⟩ = some (.int .i64 lx) ∧ W.cell? ⟨bx, 1, none⟩ = some (.int .i64 ly) ∧ W.cell? ⟨bx, 2, none⟩ = some (.int .i64 hx) ∧ W.cell? ⟨bx, 3, none⟩ = some (.int .i64 hy))) :=
      fun W hb => ⟨cell_later hb e0, cell_later hb e1, cell_later hb e2, cell_later hb e3⟩
    have hone : ∀ (W : World) (B : Nat) (v : Value) (zs : List (Value × List (Int × Int))), RowsAt W B 34 38 ptE v zs → ∀ u ∈ zs.map Prod.fst, u.oneCell' = true := fun W B v zs hr u hu => by
      obtain ⟨_, _, _, _, hx⟩ := hr
      obtain ⟨x, hxm, rfl⟩ := List.mem_map.1 hu
      obtain ⟨_, _, e, _⟩ := hx x hxm
      rw [e]; rfl
    have hrow : ∀ (W : World) (B : Nat) (v : Value) (zs : List (Value × List (Int × Int))) (ao : Option Addr) (cap : Nat), v = .slice ao zs.length cap → RowsAt W B 34 38 ptE v zs → W.ownsRow B 34 1 (.slice ao zs.length cap) zs.length (zs.map Prod.fst) := fun W B v zs ao cap hv hr => by
      obtain ⟨ao', cap', hv', ho, _⟩ := hr
      rw [hv] at hv'
      cases hv'
      exact ho
    go_region_held3 (fun w' => (w'.cell? ⟨bx, 0, none⟩ = some (.int .i64 lx) ∧ w'.cell? ⟨bx, 1, none⟩ = some (.int .i64 ly) ∧ w'.cell? ⟨bx, 2, none⟩ = some (.int .i64 hx) ∧ w'.cell? ⟨bx, 3, none⟩ = some (.int .i64 hy)))
      ((refine HS.out _ ?_; repeat first | assumption | exact Below.refl _ _ | refine Below.drew ?_ | refine below_alloc ?_ _ (Nat.le_refl _)))
      (first
        | (go_at_call 19; (fail_if_success (have := hrC2)); refine (of_any lx ly hx hy _).mono ?_; rintro e wA ⟨rfl, hbA⟩; have hBA : Below wr.heap.size wr wA := below_step (by repeat first | assumption | exact Below.refl _ _ | refine Below.drew ?_ | refine below_alloc ?_ _ (Nat.le_refl _)) hbA)
        | (go_at_call 19; refine (of_any lx ly hx hy _).mono ?_; rintro e wE ⟨rfl, hbE⟩; have hBE : Below wr.heap.size wr wE := below_step (by repeat first | assumption | exact Below.refl _ _ | refine Below.drew ?_ | refine below_alloc ?_ _ (Nat.le_refl _)) hbE; have hBCE : Below wC.heap.size wC wE := below_step (by repeat first | assumption | exact Below.refl _ _ | refine Below.drew ?_ | refine below_alloc ?_ _ (Nat.le_refl _)) hbE)
        | (go_at_call 27; (fail_if_success (have := hrC2)); refine (himplp _ _ _ _ (own_below hop7 (by repeat first | assumption | exact Below.refl _ _ | refine Below.drew ?_ | refine below_alloc ?_ _ (Nat.le_refl _)) (Nat.le_refl _))).mono ?_; rintro e wC ⟨vC, yC, rfl, hyC, hrC, hbC, hlC, hnC, gC, cC, hvC⟩; have hBC : Below wr.heap.size wr wC := below_step (by repeat first | assumption | exact Below.refl _ _ | refine Below.drew ?_ | refine below_alloc ?_ _ (Nat.le_refl _)) hbC; subst hvC; have hrC2 := hrC.mono (B' := wr.heap.size) (Below.size (B := wr.heap.size) (w := wr) (by repeat first | assumption | exact Below.refl _ _ | refine Below.drew ?_ | refine below_alloc ?_ _ (Nat.le_refl _))))
        | (go_at_call 27; refine (himplq _ _ _ _ (own_below hoq7 (by repeat first | assumption | exact Below.refl _ _ | refine Below.drew ?_ | refine below_alloc ?_ _ (Nat.le_refl _)) (Nat.le_refl _))).mono ?_; rintro e wD ⟨vD, yD, rfl, hyD, hrD, hbD, hlD, hnD, gD, cD, hvD⟩; have hBD : Below wr.heap.size wr wD := below_step (by repeat first | assumption | exact Below.refl _ _ | refine Below.drew ?_ | refine below_alloc ?_ _ (Nat.le_refl _)) hbD; subst hvD; have hBCD : Below wC.heap.size wC wD := below_step (by repeat first | assumption | exact Below.refl _ _ | refine Below.drew ?_ | refine below_alloc ?_ _ (Nat.le_refl _)) hbD; have hrC3 := hrC2.below hBCD (Nat.le_refl _); have hoC3 := hrow _ _ _ yC _ _ rfl hrC3; have hoD3 := hrow _ _ _ yD _ _ rfl hrD; have hone3 := hone _ _ _ yD hrD)
        | (refine step_append_any _ rfl (.tmp 60) (.tmp 64) 51 rfl wr.heap.size 34 i0 _ 1 24 Try.underlying51 hi hz0 hz1 hz2 rfl (by decide) (.slice (some ⟨gC, 0, none⟩) yC.length cC) yC.length (yC.map Prod.fst) (by simp [Act.eval, Act.put]) hoC3 ⟨gD, 0, none⟩ yD.length cD (yD.map Prod.fst) (by simp [Act.eval, Act.put]) hoD3.1 (fun j u hj => hoD3.cells rfl j u hj) hone3 (by unfold maxLen; omega) (by omega) hBD.size ?_; intro vZ wZ hoZ hgZ; have hBZ : Below wr.heap.size wr wZ := hBD.grown hgZ hBD.size fun k hk => (hoC3.lt k hk).1))
    all_goals go_wp2_with fail
    all_goals go_meet
    all_goals
      obtain ⟨aoZ, capZ, rfl⟩ := own_form hoZ
      refine ⟨yC ++ yD, by rw [List.map_append, hyC, hyD], (fun z hz => by
        rcases List.mem_append.1 hz with h | h
        · exact hlC z h
        · exact hlD z h), by rw [List.length_append]; omega, ⟨aoZ, capZ, by rw [List.length_append], by rw [List.length_append, List.map_append]; exact own_mono hoZ (Nat.zero_le _), fun x hxm => ?_⟩, hBZ⟩
      obtain ⟨_, _, _, _, hxC⟩ := hrC3
      obtain ⟨_, _, _, _, hxD⟩ := hrD
      rcases List.mem_append.1 hxm with hm | hm
      · exact (hxC x hm).grown hoC3 (by decide) hgZ
      · exact (hxD x hm).grown hoC3 (by decide) hgZ
  case rest =>
    obtain ⟨zs, hzs, hzl, hzn, hrz, hb8⟩ := hcut
    have hry := hr7.below hb8 (Nat.le_refl _)
    have hbx8 := hbx7.below hb8 hbx7.lt
    have hB8 := hB7.trans (hb8.mono hB7.size)
    have hlen : ys.length = zs.length := by rw [← List.length_map (f := Prod.snd), hys, ← hzs, List.length_map]
    have hsame : ∀ k (hk : k < zs.length), (ys[k]'(by omega)).2 = zs[k].2 := fun k hk => by
      have e1 : (ys.map Prod.snd)[k]? = (zs.map Prod.snd)[k]? := by rw [hys, hzs]
      rw [List.getElem?_map, List.getElem?_map, List.getElem?_eq_getElem (by omega), List.getElem?_eq_getElem hk] at e1
      simpa using e1
    have hsm : ∀ k (hk : k < zs.length), ∀ p ∈ zs[k].2, Sm p.1 ∧ Sm p.2 := fun k hk p hp => by
      have hm : zs[k].2 ∈ R1 ++ R2 := by rw [← hzs]; exact List.mem_map_of_mem (List.getElem_mem hk)
      have hr : RowOk lx ly hx hy zs[k].2 := by
        rcases List.mem_append.1 hm with h | h
        · exact hR1 _ h
        · exact hR2 _ h
      have hb := hasB_iff.1 (hr.1 p hp)
      unfold Sm; omega
    obtain ⟨aoY, capY, gY, rfl, hgY, hrdY⟩ := hry.read
    obtain ⟨aoZ, capZ, gZ, rfl, hgZ, hrdZ⟩ := hrz.read
    rw [hlen]
    clear hr7 hbx7 hB7 hb8 hry hrz hR1 hR2 hys hzs e0 e1 e2 e3 hop7 hoq7 himplp himplq
    obtain ⟨w8, rfl⟩ : ∃ w8, w8 = wc := ⟨_, rfl⟩
    go_wp2_with fail
    go_loopw [73] (fun i wr => ∃ (k : Nat), k ≤ zs.length ∧ i = .int .i64 k ∧ Below w8.heap.size w8 wr) (fun i _ => zs.length - (intOf i).toNat)
    case atStart => exact ⟨0, Nat.zero_le _, rfl, Below.refl _ _⟩
    case round =>
      obtain ⟨k, hk, rfl, hbel⟩ := hrel
      by_cases hlt : k < zs.length
      · obtain ⟨rfl, hgsY, _⟩ := hgY (by omega)
        obtain ⟨rfl, hgsZ, _⟩ := hgZ (by omega)
        obtain ⟨aq, cq, _, c0, hqo⟩ := hrdY k (by omega)
        obtain ⟨ar, cr, _, c1, hro⟩ := hrdZ k hlt
        rw [hsame k hlt] at c0 hqo
        have hz1 := hzl _ (List.getElem_mem hlt)
        have hs1 := hsm k hlt
        obtain ⟨us, hu⟩ : ∃ us, us = zs[k].2 := ⟨_, rfl⟩
        rw [← hu] at c0 c1 hqo hro hz1 hs1
        clear hu hrdY hrdZ hsame hzl hsm hgY hgZ
        have d0 : wr.cell? ⟨gY, k, none⟩ = some (.slice aq us.length cq) := (hbel.cell (by exact hgsY)).trans c0
        have d1 : wr.cell? ⟨gZ, k, none⟩ = some (.slice ar us.length cr) := (hbel.cell (by exact hgsZ)).trans c1
        go_wp2_with fail
        go_quiet (fail)
        go_wp2_with fail
        obtain ⟨wo, rfl⟩ : ∃ wo, wo = wr := ⟨_, rfl⟩
        obtain ⟨gq, hgq, hcq⟩ := pts_read hqo
        obtain ⟨gr, hgr, hcr⟩ := pts_read hro
        have hbo : Below w8.heap.size w8 (wo.drewN nq) := below_drewN hbel _
        have HD0 : Hid (wo.cell? ⟨gY, k, none⟩ = some (.slice aq us.length cq)) := d0
        have HD1 : Hid (wo.cell? ⟨gZ, k, none⟩ = some (.slice ar us.length cr)) := d1
        have hgy8 : gY < w8.heap.size := hgsY
        have hgz8 : gZ < w8.heap.size := hgsZ
        have HC0 : Hid (w8.cell? ⟨gY, k, none⟩ = some (.slice aq us.length cq)) := c0
        have HC1 : Hid (w8.cell? ⟨gZ, k, none⟩ = some (.slice ar us.length cr)) := c1
        clear d0 d1 c0 c1 hbel hqo hro
        go_loopw [92] (fun i w' => ∃ (m : Nat), m ≤ us.length ∧ i = .int .i64 m ∧ Below w8.heap.size w8 w') (fun i _ => us.length - (intOf i).toNat)
        case atStart => exact ⟨0, Nat.zero_le _, rfl, hbo⟩
        case round =>
          obtain ⟨m, hm, rfl, hbel⟩ := hrel
          by_cases hlt2 : m < us.length
          · obtain ⟨rfl, hgsq, _⟩ := hgq (by omega)
            obtain ⟨rfl, hgsr, _⟩ := hgr (by omega)
            obtain ⟨q0, q1⟩ := hcq m hlt2
            obtain ⟨r0, r1⟩ := hcr m hlt2
            have d0 := (hbel.cell (by exact hgy8)).trans HC0.out
            have d1 := (hbel.cell (by exact hgz8)).trans HC1.out
            have d2 : wr.cell? ⟨gq, m * 2, none⟩ = some (.float .f64 (F us[m].1)) := (hbel.cell (by exact hgsq)).trans q0
            have d3 : wr.cell? ⟨gq, m * 2 + 1, none⟩ = some (.float .f64 (F us[m].2)) := (hbel.cell (by exact hgsq)).trans q1
            have d4 : wr.cell? ⟨gr, m * 2, none⟩ = some (.float .f64 (F us[m].1)) := (hbel.cell (by exact hgsr)).trans r0
            have d5 : wr.cell? ⟨gr, m * 2 + 1, none⟩ = some (.float .f64 (F us[m].2)) := (hbel.cell (by exact hgsr)).trans r1
            have hs := hs1 _ (List.getElem_mem hlt2)
            have hgw0 : gY < wr.heap.size := Nat.lt_of_lt_of_le hgy8 hbel.size
            have hgw1 : gZ < wr.heap.size := Nat.lt_of_lt_of_le hgz8 hbel.size
            have hgw2 : gq < wr.heap.size := Nat.lt_of_lt_of_le hgsq hbel.size
            have hgw3 : gr < wr.heap.size := Nat.lt_of_lt_of_le hgsr hbel.size
            clear q0 q1 r0 r1 hcq hcr hs1 hgq hgr hbo
            go_wp2_with fail
            go_quiet (fail)
            go_wp2
            go_roundw
            case rel => exact ⟨m + 1, by omega, by go_num, below_drewN hbel _⟩
            case measure => simp [intOf]; omega
          · obtain rfl : m = us.length := by omega
            go_wp2_with fail
            go_roundw
            case rel => exact ⟨k + 1, by omega, by go_num, hbel⟩
            case measure => simp [intOf]; omega
      · obtain rfl : k = zs.length := by omega
        have hbx9 := hbx8.below hbel hbx8.lt
        have hB9 := hB8.trans (hbel.mono hB8.size)
        clear hgY hgZ hrdY hrdZ hsame hsm hzl hbel hbx8 hB8
        have e0 : wr.cell? ⟨bx, 0, none⟩ = some (.int .i64 lx) := hbx9.cell 0
        have e1 : wr.cell? ⟨bx, 1, none⟩ = some (.int .i64 ly) := hbx9.cell 1
        have e2 : wr.cell? ⟨bx, 2, none⟩ = some (.int .i64 hx) := hbx9.cell 2
        have e3 : wr.cell? ⟨bx, 3, none⟩ = some (.int .i64 hy) := hbx9.cell 3
        have hlow : ∀ p ∈ [(lx, ly)], Sm p.1 ∧ Sm p.2 := fun p hp => by simp at hp; subst hp; exact smb.1
        have hin : [(lx, ly)].filter (fun p => hasB lx ly hx hy p.1 p.2) = [(lx, ly)] := by simp [hasB]; omega
        have HI : Hid ([(lx, ly)].filter (fun p => hasB lx ly hx hy p.1 p.2) = [(lx, ly)]) := hin
        clear hin hbx9
        go_wp2_with fail
        have HS : Hid (∀ W, Below wr.heap.size wr W → (W.cell? ⟨bx, 0, none⟩ = some (.int .i64 lx) ∧ W.cell? ⟨bx, 1, none⟩ = some (.int .i64 ly) ∧ W.cell? ⟨bx, 2, none⟩ = some (.int .i64 hx) ∧ W.cell? ⟨bx, 3, none⟩ = some (.int .i64 hy))) :=
          fun W hb => ⟨cell_later hb e0, cell_later hb e1, cell_later hb e2, cell_later hb e3⟩
        go_region_held3 (fun w' => (w'.cell? ⟨bx, 0, none⟩ = some (.int .i64 lx) ∧ w'.cell? ⟨bx, 1, none⟩ = some (.int .i64 ly) ∧ w'.cell? ⟨bx, 2, none⟩ = some (.int .i64 hx) ∧ w'.cell? ⟨bx, 3, none⟩ = some (.int .i64 hy)))
          ((refine HS.out _ ?_; repeat first | assumption | exact Below.refl _ _ | refine Below.drew ?_ | refine below_alloc ?_ _ (Nat.le_refl _)))
          (first
            | (go_at_call 19; refine (of_any lx ly hx hy _).mono ?_; rintro e wA ⟨rfl, hbA⟩; have hBA : Below wr.heap.size wr wA := below_step (by repeat first | assumption | exact Below.refl _ _ | refine Below.drew ?_ | refine below_alloc ?_ _ (Nat.le_refl _)) hbA)
            | (go_at_call 20; refine (specPoints_any _ _ [(lx, ly)] 0 _ (by simp) (by first | exact own_new _ 0 (Nat.zero_le _) 25 2 1 [_, _] rfl (by omega) | exact own_below (own_new _ 0 (Nat.zero_le _) 25 2 1 [_, _] rfl (by omega)).drew hbA (by simp) | exact own_below (own_new _ 0 (Nat.zero_le _) 25 2 1 [_, _] rfl (by omega)) hbA (by simp))).mono ?_; rintro e wB ⟨aoB, capB, rfl, hoB, hbB⟩; have hBB : Below wr.heap.size wr wB := below_step (by repeat first | assumption | exact Below.refl _ _ | refine Below.drew ?_ | refine below_alloc ?_ _ (Nat.le_refl _)) hbB)
            | (go_at_call 18; refine (implPoints_any lx ly hx hy smb.1.1 smb.1.2 smb.2.1 smb.2.2 _ _ [(lx, ly)] _ _ hlow (by simp) hoB).mono ?_; rw [HI.out]; rintro e wC ⟨aoC, capC, rfl, hoC, hbC⟩; have hBC : Below wr.heap.size wr wC := below_step (by repeat first | assumption | exact Below.refl _ _ | refine Below.drew ?_ | refine below_alloc ?_ _ (Nat.le_refl _)) hbC))
        all_goals
          go_wp2
          go_ret
          exact ⟨rfl, hB9.trans (hBC.mono hB9.size)⟩
end Go.Proofs.Ytlakfamodfgmcaa
