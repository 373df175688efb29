/- What the proofs over smartclip lean on, part 47 of 48. -/
import Derived.Test.YtafanlbfbfbeoaaM01
import Derived.Test.YtafanlbfbfbeoaaM41
import Derived.Test.YtafanlbfbfbeoaaM43
import Derived.Test.YtafanlbfbfbeoaaM42
import Derived.Test.YtafanlbfbfbeoaaM36
import Derived.Deep.QuietTactic
import Derived.BigQuiet

/- The walk of FnSmartRings. -/
namespace Go.Proofs.Ytafanlbfbfbeoaa
open Go.RowKit

set_option maxRecDepth 100000 in
set_option maxHeartbeats 8000000 in
theorem fnSmartRings_walk (a0 a1 a2 a3 a4 a5 : Int) (a6 : Option Addr) (len6 cap6 : Nat) (z6 : List Int) (w : World) (h0 : -128 ≤ a0) (h0' : a0 ≤ 127) (h1 : -128 ≤ a1) (h1' : a1 ≤ 127) (h2 : -128 ≤ a2) (h2' : a2 ≤ 127) (h3 : -128 ≤ a3) (h3' : a3 ≤ 127)
    (h4 : -128 ≤ a4) (h4' : a4 ≤ 127) (h5 : -128 ≤ a5) (h5' : a5 ≤ 127) (w6 : IsRow .u8 w a6 len6 cap6 z6) :
    Calls Try.prog 4 #[.int .i8 a0, .int .i8 a1, .int .i8 a2, .int .i8 a3, .int .i8 a4, .int .i8 a5, .slice a6 len6 cap6] w fun e w' => e = .returned (.bool true) ∧ Below w.heap.size w w' := by
  by_cases hbig : 2147483647 < (len6 : Int)
  · clear w6
    go_enter Try.func4, Try.ntmps4
    go_wp2
    go_ret
    exact ⟨rfl, Below.refl _ _⟩
  · have hbig' : (len6 : Int) ≤ 2147483647 := by omega
    clear hbig
    go_enter Try.func4, Try.ntmps4
    go_wp2_with fail
    refine (box_any a0 a1 a2 a3 h0 h0' h1 h1' h2 h2' h3 h3' _).mono ?_
    rintro e w1 ⟨lx, ly, hx, hy, rfl, hbox, hb1⟩
    have hnear := hbox.near h0 h0' h1 h1' h2 h2' h3 h3'
    clear hbox h0 h0' h1 h1' h2 h2' h3 h3'
    go_wp2_with fail
    refine (way_walk a4 a5 a6 len6 cap6 z6 h4 h4' h5 h5' _ (w6.below hb1)).mono ?_
    rintro e w2 ⟨ao2, cap2, ps, rfl, hpw, hps0, hps1, hps, ho2, hb2⟩
    have hring := closed_ring hps0 (by omega) hps (by rw [hpw, wayL_head]; exact way_octi _ _ _ (octi_self _))
    have hrl : (closedL ps).length ≤ 100 := by have := closedL_len ps; omega
    clear hpw
    have hB2 := hb1.trans (hb2.mono hb1.size)
    clear w6 h4 h4' h5 h5' hb1 hb2
    go_wp2_with fail
    refine (closed_any ao2 cap2 ps _ _ hps0 (by omega) ho2).mono ?_
    rintro e w3 ⟨ao3, cap3, rfl, ho3, hb3⟩
    have hB3 := hB2.trans (hb3.mono hB2.size)
    clear hb3 ho2 hB2 hps hps0 hps1
    generalize closedL ps = rs at *
    obtain ⟨hrk, hrp⟩ := hring
    have hoct := ring_octi hrk
    go_wp2_with fail
    obtain ⟨wx, hwx⟩ : ∃ wx, wx = w3.alloc (.cells #[.int .i64 lx, .int .i64 ly, .int .i64 hx, .int .i64 hy] 27) := ⟨_, rfl⟩
    have hbx := Blk.new w3 #[.int .i64 lx, .int .i64 ly, .int .i64 hx, .int .i64 hy] 27
    have hB3x : Below w.heap.size w wx := by rw [hwx]; exact below_alloc hB3 _ (Nat.le_refl _)
    have ho3x := ho3.alloc (.cells #[.int .i64 lx, .int .i64 ly, .int .i64 hx, .int .i64 hy] 27)
    obtain ⟨bx, hbx0⟩ : ∃ bx, bx = w3.heap.size := ⟨_, rfl⟩
    rw [← hwx, ← hbx0] at hbx
    rw [← hwx] at ho3x ⊢
    rw [← hbx0]
    clear hwx hbx0 ho3 hB3
    refine (small_any lx ly hx hy (by omega) (by omega) _).mono ?_
    rintro e w4 ⟨rfl, hb4⟩
    have hbx4 := hbx.below hb4 hbx.lt
    have ho4 := own_below ho3x hb4 (Nat.le_refl _)
    have hB4 := hB3x.trans (hb4.mono hB3x.size)
    clear hb4 ho3x hB3x hbx
    obtain ⟨sb, hsb0⟩ : ∃ sb : Bool, sb = (decide (hx - lx ≤ 40) && decide (hy - ly ≤ 40)) := ⟨_, rfl⟩
    rw [← hsb0]
    clear hsb0
    have e0 : w4.cell? ⟨bx, 0, none⟩ = some (.int .i64 lx) := hbx4.cell 0
    have e1 : w4.cell? ⟨bx, 1, none⟩ = some (.int .i64 ly) := hbx4.cell 1
    have e2 : w4.cell? ⟨bx, 2, none⟩ = some (.int .i64 hx) := hbx4.cell 2
    have e3 : w4.cell? ⟨bx, 3, none⟩ = some (.int .i64 hy) := hbx4.cell 3
    cases sb with
    | false =>
      go_wp2_with fail
      go_ret
      exact ⟨rfl, hB4⟩
    | true =>
    clear e0 e1 e2 e3
    go_wp2_with fail
    refine (simple_any _ _ rs _ _ (by omega) hrk.near hoct ho4).mono ?_
    rintro e w3 ⟨b4, rfl, hsb, hb4⟩
    have hbx5 := hbx4.below hb4 hbx4.lt
    have ho5 := own_below ho4 hb4 (Nat.le_refl _)
    have hB5 := hB4.trans (hb4.mono hB4.size)
    clear hb4 ho4 hB4 hbx4
    cases b4 with
    | false =>
      clear hsb
      go_wp2_with fail
      go_ret
      exact ⟨rfl, hB5⟩
    | true =>
    have HSB : Hid (SimpleB (stepsL rs)) := hsb rfl
    have e0 : w3.cell? ⟨bx, 0, none⟩ = some (.int .i64 lx) := hbx5.cell 0
    have e1 : w3.cell? ⟨bx, 1, none⟩ = some (.int .i64 ly) := hbx5.cell 1
    have e2 : w3.cell? ⟨bx, 2, none⟩ = some (.int .i64 hx) := hbx5.cell 2
    have e3 : w3.cell? ⟨bx, 3, none⟩ = some (.int .i64 hy) := hbx5.cell 3
    clear hsb
    go_wp2_with fail
    refine (clear_any lx ly hx hy _ _ rs _ _ (by omega) hrk.near hoct ho5).mono ?_
    rintro e w4 ⟨b5, rfl, hcb, hb5⟩
    have hbx4 := hbx5.below hb5 hbx5.lt
    have ho4 := own_below ho5 hb5 (Nat.le_refl _)
    have hB4 := hB5.trans (hb5.mono hB5.size)
    clear hb5 ho5 hB5 hbx5 e0 e1 e2 e3
    cases b5 with
    | false =>
      clear hcb
      go_wp2_with fail
      go_ret
      exact ⟨rfl, hB4⟩
    | true =>
    obtain ⟨P0, l, hP0, LW⟩ := ringLaw_of (lx := lx) (ly := ly) (hx := hx) (hy := hy) (by unfold Near; omega) (by unfold Near; omega) (by omega) (by omega) hrk HSB.out (hcb rfl) hrl
    have HLW : Hid (RingLaw lx ly hx hy P0 l ∧ rs = P0 :: l) := ⟨LW, hP0⟩
    clear hcb HSB LW hP0
    have hnr : ∀ p ∈ rs, Near p := hrk.near
    clear hrk hoct
    have hlt : lx < hx ∧ ly < hy := by omega
    have e0 : w4.cell? ⟨bx, 0, none⟩ = some (.int .i64 lx) := hbx4.cell 0
    have e1 : w4.cell? ⟨bx, 1, none⟩ = some (.int .i64 ly) := hbx4.cell 1
    have e2 : w4.cell? ⟨bx, 2, none⟩ = some (.int .i64 hx) := hbx4.cell 2
    have e3 : w4.cell? ⟨bx, 3, none⟩ = some (.int .i64 hy) := hbx4.cell 3
    obtain ⟨lf, hlf⟩ : ∃ lf : Bool, decide (0 < areaL rs) = lf := ⟨_, rfl⟩
    have himpl := fun ao cap B W hr => implSmart_any (lx := lx) (ly := ly) (hx := hx) (hy := hy) (decide (0 < areaL rs)) HLW.out.1 ao cap rs HLW.out.2 B W hr
    rw [hlf] at himpl
    have HLF : Hid (decide (0 < areaL rs) = lf) := hlf
    clear hlf
    go_wp2_with fail
    refine (of_any lx ly hx hy _).mono ?_
    rintro e w5 ⟨rfl, hb5⟩
    have ho5 := own_below ho4 hb5 (Nat.le_refl _)
    have hbx5 := hbx4.below hb5 hbx4.lt
    have hB5 := hB4.trans (hb5.mono hB4.size)
    clear e0 e1 e2 e3 hb5 ho4 hbx4 hB4
    go_wp2_with fail
    refine (specPoints_any _ _ rs _ _ (by omega) ho5).mono ?_
    rintro e w6 ⟨ao6, cap6, rfl, hp6, hb6⟩
    have ho6 := own_below ho5 hb6 (Nat.le_refl _)
    have hbx6 := hbx5.below hb6 hbx5.lt
    have hB6 := hB5.trans (hb6.mono hB5.size)
    clear hb6 ho5 hbx5 hB5
    go_wp2_with fail
    refine (area_any _ _ rs _ _ (by omega) hnr ho6).mono ?_
    rintro e w7 ⟨rfl, hb7⟩
    have hp7 := own_below hp6 hb7 (Nat.le_refl _)
    have ho7 := own_below ho6 hb7 (Nat.le_refl _)
    have hbx7 := hbx6.below hb7 hbx6.lt
    have hB7 := hB6.trans (hb7.mono hB6.size)
    clear hb7 hp6 ho6 hbx6 hB6
    go_wp2_with fail
    rw [HLF.out]
    refine (himpl ao6 cap6 _ _ hp7).mono ?_
    rintro e w8 ⟨v8, qs, rfl, HQ, hp8, hb8⟩
    have ho8 := own_below ho7 hb8 (Nat.le_refl _)
    have hbx8 := hbx7.below hb8 hbx7.lt
    have hB8 := hB7.trans (hb8.mono hB7.size)
    have hbd := smartQ_bd HLW.out.1 HQ.out
    have hok := smartQ_ok (turn_or lf) HLW.out.1 HQ.out
    have HRG : Hid (∀ x ∈ qs, ∃ y, x.2 = [y] ∧ (∀ p ∈ y.2, hasB (2 * lx) (2 * ly) (2 * hx) (2 * hy) p.1 p.2 = true) ∧ y.2.length ≤ 100000 ∧ ∃ h4 : 4 ≤ y.2.length, y.2[y.2.length - 1] = y.2[0] ∧ decide (0 < areaL y.2) = lf) := by
      have hlfp := HLF.out
      have hrs := HLW.out.2
      rw [hrs] at hlfp
      exact rings_each (by rw [← hlfp]; unfold turnI; simp) hlfp HLW.out.1 HQ.out
    obtain ⟨nq, hnq⟩ : ∃ nq, nq = qs.length := ⟨_, rfl⟩
    have hnqb : nq ≤ 1000000 := by rw [hnq]; exact hbd.1
    have HNQ : Hid (nq = qs.length) := hnq
    obtain ⟨aoP, capP, gP, hv8, hgP, hrdP⟩ := hp8.read
    rw [← hnq] at hv8 hgP
    subst hv8
    have HRD : Hid (∀ k (h : k < qs.length), _) := hrdP
    have HNR : Hid (∀ p ∈ rs, Near p) := hnr
    clear himpl hp7 hp8 hb8 ho7 hbx7 hB7 hbd hok hnq hrdP
    go_wp2_with fail
    go_loopw [58] (fun vi wr => ∃ (k : Nat), k ≤ nq ∧ vi = .int .i64 k ∧ Below w8.heap.size w8 wr)
      (fun i _ => nq - (intOf i).toNat)
    case atStart => exact ⟨0, Nat.zero_le _, rfl, Below.refl _ _⟩
    case round =>
      obtain ⟨k, hk, rfl, hbel⟩ := hrel
      have hsz := hbel.size
      have hbxr := hbx8.below hbel hbx8.lt
      have hor := own_below ho8 hbel (Nat.le_refl _)
      have hBr := hB8.trans (hbel.mono hB8.size)
      have e0 : wr.cell? ⟨bx, 0, none⟩ = some (.int .i64 lx) := hbxr.cell 0
      have e1 : wr.cell? ⟨bx, 1, none⟩ = some (.int .i64 ly) := hbxr.cell 1
      have e2 : wr.cell? ⟨bx, 2, none⟩ = some (.int .i64 hx) := hbxr.cell 2
      have e3 : wr.cell? ⟨bx, 3, none⟩ = some (.int .i64 hy) := hbxr.cell 3
      by_cases hkn : k < nq
      · have hkq : k < qs.length := by rw [← HNQ.out]; exact hkn
        obtain ⟨h1P, hgsP, _⟩ := hgP (by omega)
        subst h1P
        obtain ⟨ax, cx, d0, hrx⟩ := HRD.out k hkq
        obtain ⟨y, hyq, hyb, hyl, hy4, hyc, hya⟩ := HRG.out _ (List.getElem_mem hkq)
        rw [hyq] at d0 hrx
        simp only [List.length_cons, List.length_nil, Nat.zero_add] at d0 hrx
        have hrx2 := hrx
        obtain ⟨_, _, hvx, hox, hry⟩ := hrx2
        injection hvx with g1 g2 g3
        subst g1 g3
        clear g2
        have d0 := (hbel.cell (by exact hgsP)).trans d0
        have hrow := hrx.below hbel (Nat.le_refl _)
        obtain ⟨gx, rfl⟩ : ∃ gx, ax = some ⟨gx, 0, none⟩ := by
          rcases hox.2 with ⟨_, h0⟩ | ⟨g', _, _, hv, _⟩
          · simp at h0
          · injection hv with e1; exact ⟨g', e1⟩
        have hcx : 1 ≤ cx := own_cap hox
        have hci : (1 : Int) ≤ (cx : Int) := by omega
        have hal := fun W hW => halves_any lx ly hx hy (by omega) (by omega) (by omega) (by omega) (.slice (some ⟨gx, 0, none⟩) 1 cx) [y] 0 W (fun x hx => by rw [List.mem_singleton.1 hx]; exact hyb) (fun x hx => by rw [List.mem_singleton.1 hx]; exact hyl) (by simp) hW
        have HAL : Hid (∀ W, _) := hal
        have HRW : Hid (RowsAt wr 0 43 39 hE (.slice (some ⟨gx, 0, none⟩) 1 cx) [y]) := hrow
        obtain ⟨ZS, hZS⟩ : ∃ ZS, ZS = y.2 := ⟨_, rfl⟩
        have HY : Hid (ZS = y.2) := hZS
        rw [← hZS] at hyb hyl hy4 hya
        have hcl : ZS[ZS.length - 1]'(by omega) = ZS[0]'(by omega) := by subst hZS; exact hyc
        have HCL : Hid (ZS[ZS.length - 1]'(by omega) = ZS[0]'(by omega) ∧ decide (0 < areaL ZS) = lf ∧ ∀ p ∈ ZS, hasB (2 * lx) (2 * ly) (2 * hx) (2 * hy) p.1 p.2 = true) := ⟨hcl, hya, hyb⟩
        clear hcl hya hyb hyc hal hrow hZS hrx hox hry hyq hgP ho8 hbx8 hB8
        go_wp2_with fail
        have HS : Hid (∀ W, Below wr.heap.size wr W → (W.cell? ⟨bx, 0, none⟩ = some (.int .i64 lx) ∧ W.cell? ⟨bx, 1, none⟩ = some (.int .i64 ly) ∧ W.cell? ⟨bx, 2, none⟩ = some (.int .i64 hx) ∧ W.cell? ⟨bx, 3, none⟩ = some (.int .i64 hy))) :=
          fun W hb => ⟨cell_later hb e0, cell_later hb e1, cell_later hb e2, cell_later hb e3⟩
        clear d0 hgsP hkq hnr HLW HQ HRG HNQ HRD hlt
        go_cut [19, 20] (fun v19 v20 wc => v20 = .bool true ∧ ∃ ys : List (Value × List (Int × Int)), ys.map Prod.snd = [ZS] ∧ RowsAt wc 0 29 25 spotE v19 ys ∧ Below wr.heap.size wr wc)
        case first =>
          go_region_held3 (fun W => (W.cell? ⟨bx, 0, none⟩ = some (.int .i64 lx) ∧ W.cell? ⟨bx, 1, none⟩ = some (.int .i64 ly) ∧ W.cell? ⟨bx, 2, none⟩ = some (.int .i64 hx) ∧ W.cell? ⟨bx, 3, none⟩ = some (.int .i64 hy)))
            ((refine HS.out _ ?_; repeat first | with_reducible assumption | with_reducible exact Below.refl _ _ | with_reducible refine Below.drew ?_ | with_reducible refine below_drewN ?_ _ | with_reducible refine below_alloc ?_ _ (Nat.le_refl _)))
            ((go_at_call 19; with_reducible refine (HAL.out _ (HRW.out.below (C := wr.heap.size) (by repeat first | with_reducible assumption | with_reducible exact Below.refl _ _ | with_reducible refine Below.drew ?_ | with_reducible refine below_drewN ?_ _ | with_reducible refine below_alloc ?_ _ (Nat.le_refl _)) (Nat.le_refl _))).mono ?_; rintro e wA ⟨vA, ysA, rfl, hyA, hrA, hbA⟩; have hBA : Below wr.heap.size wr wA := below_step (by repeat first | with_reducible assumption | with_reducible exact Below.refl _ _ | with_reducible refine Below.drew ?_ | with_reducible refine below_drewN ?_ _ | with_reducible refine below_alloc ?_ _ (Nat.le_refl _)) hbA))
          all_goals go_wp2_with fail
          all_goals go_meet
          all_goals exact ⟨rfl, ysA, by rw [hyA, HY.out]; rfl, hrA.mono (Nat.zero_le _), hBA⟩
        case rest =>
          obtain ⟨rfl, ys, hys, hrs, hbc⟩ := hcut
          obtain ⟨z, rfl⟩ : ∃ z, ys = [z] := by
            cases ys with
            | nil => simp at hys
            | cons z t =>
              cases t with
              | nil => exact ⟨z, rfl⟩
              | cons z2 t => simp at hys
          obtain ⟨z1, z2⟩ := z
          have hz : ZS = z2 := by simpa using hys.symm
          subst hz
          obtain ⟨aoS, capS, gS, rfl, hgS, hcS⟩ := hrs.read
          obtain ⟨rfl, hgl, _⟩ := hgS (by simp)
          obtain ⟨a2, c2, hv2, k0, hoS⟩ := hcS 0 (by simp)
          replace k0 : wc.cell? ⟨gS, 0, none⟩ = some (.slice a2 ZS.length c2) := k0
          replace hoS : wc.ownsRow 0 25 2 (.slice a2 ZS.length c2) ZS.length (ZS.flatMap spotE) := hoS
          obtain ⟨g2, hg2, hc2⟩ := spots_read hoS
          obtain ⟨rfl, hg2l, _⟩ := hg2 (by omega)
          obtain ⟨f0, f1⟩ := hc2 0 (by omega)
          obtain ⟨f2, f3⟩ := hc2 (ZS.length - 1) (by omega)
          rw [HCL.out.1] at f2 f3
          have hn1 : ∀ p ∈ ZS, Near p := fun p hp => near_in hnear (HCL.out.2.2 p hp)
          have hor2 := own_below hor hbc (Nat.le_refl _)
          have hBc := hBr.trans (hbc.mono hBr.size)
          have hbelc := hbel.trans (hbc.mono hbel.size)
          obtain ⟨q0, hq0⟩ : ∃ q0, q0 = ZS[0]'(by omega) := ⟨_, rfl⟩
          rw [← hq0] at f0 f1 f2 f3
          obtain ⟨A1, hA1⟩ : ∃ A1, A1 = areaL ZS := ⟨_, rfl⟩
          obtain ⟨A2, hA2⟩ : ∃ A2, A2 = areaL rs := ⟨_, rfl⟩
          have d1 : decide (0 < A1) = lf := by rw [hA1]; exact HCL.out.2.1
          have d2 : decide (0 < A2) = lf := by rw [hA2]; exact HLF.out
          have har1 := fun W hW => area_any (some ⟨g2, 0, none⟩) c2 ZS 0 W hyl hn1 hW
          have har2 := fun W hW => area_any ao3 cap3 rs w2.heap.size W (by omega) HNR.out hW
          rw [← hA1] at har1
          rw [← hA2] at har2
          have HAR1 : Hid (∀ W, _) := har1
          have HAR2 : Hid (∀ W, _) := har2
          have HOR : Hid (wc.ownsRow 0 25 2 (.slice (some ⟨g2, 0, none⟩) ZS.length c2) ZS.length (ZS.flatMap spotE) ∧ wc.ownsRow w2.heap.size 25 2 (.slice ao3 rs.length cap3) rs.length (rs.flatMap spotE)) := ⟨hoS, hor2⟩
          obtain ⟨m1, hm1⟩ : ∃ m1, m1 = ZS.length - 1 := ⟨_, rfl⟩
          rw [← hm1] at f2 f3
          have hsub : IntKind.i64.wrap ((ZS.length : Int) - 1) = (m1 : Int) := by
            rw [IntWalk.i64_in _ (by omega)]; omega
          have hmi : (m1 : Int) < (ZS.length : Int) := by omega
          have hmn : m1 < ZS.length := by omega
          have hm0 : (0 : Int) < (ZS.length : Int) := by omega
          have hmz : 0 < ZS.length := by omega
          clear hm1
          have hge : decide ((ZS.length : Int) < 4) = false := decide_eq_false (by omega)
          have HS2 : Hid (∀ W, Below wc.heap.size wc W → (W.cell? ⟨g2, 0, none⟩ = some (.int .i64 q0.1) ∧ W.cell? ⟨g2, 1, none⟩ = some (.int .i64 q0.2) ∧ W.cell? ⟨g2, m1 * 2, none⟩ = some (.int .i64 q0.1) ∧ W.cell? ⟨g2, m1 * 2 + 1, none⟩ = some (.int .i64 q0.2))) :=
            fun W hb => ⟨cell_later hb f0, cell_later hb f1, cell_later hb f2, cell_later hb f3⟩
          have f0 : wc.cell? ⟨g2, 0, none⟩ = some (.int .i64 q0.1) := f0
          have f1 : wc.cell? ⟨g2, 1, none⟩ = some (.int .i64 q0.2) := f1
          clear hys hrs hgS hcS hv2 hg2 hc2 hq0 hA1 hA2 har1 har2 hoS hor2 hbc hn1 HAL HRW HY HCL HS e0 e1 e2 e3 hbxr hor hBr hbel HLF HNR
          go_wp2_with fail
          go_cut [100] (fun v wd => v = .bool false ∧ Below wc.heap.size wc wd)
          case first =>
            go_region_held3 (fun W => (W.cell? ⟨g2, 0, none⟩ = some (.int .i64 q0.1) ∧ W.cell? ⟨g2, 1, none⟩ = some (.int .i64 q0.2) ∧ W.cell? ⟨g2, m1 * 2, none⟩ = some (.int .i64 q0.1) ∧ W.cell? ⟨g2, m1 * 2 + 1, none⟩ = some (.int .i64 q0.2)))
              ((refine HS2.out _ ?_; repeat first | with_reducible assumption | with_reducible exact Below.refl _ _ | with_reducible refine Below.drew ?_ | with_reducible refine below_drewN ?_ _ | with_reducible refine below_alloc ?_ _ (Nat.le_refl _)))
              (first
                | (go_at_call 16; with_reducible refine (HAR1.out _ (own_below (C := wc.heap.size) HOR.out.1 (by repeat first | with_reducible assumption | with_reducible exact Below.refl _ _ | with_reducible refine Below.drew ?_ | with_reducible refine below_drewN ?_ _ | with_reducible refine below_alloc ?_ _ (Nat.le_refl _)) (Nat.le_refl _))).mono ?_; rintro e wA ⟨rfl, hbA⟩; have hBA : Below wc.heap.size wc wA := below_step (by repeat first | with_reducible assumption | with_reducible exact Below.refl _ _ | with_reducible refine Below.drew ?_ | with_reducible refine below_drewN ?_ _ | with_reducible refine below_alloc ?_ _ (Nat.le_refl _)) hbA)
                | (go_at_call 16; with_reducible refine (HAR2.out _ (own_below (C := wc.heap.size) HOR.out.2 (by repeat first | with_reducible assumption | with_reducible exact Below.refl _ _ | with_reducible refine Below.drew ?_ | with_reducible refine below_drewN ?_ _ | with_reducible refine below_alloc ?_ _ (Nat.le_refl _)) (Nat.le_refl _))).mono ?_; rintro e wB ⟨rfl, hbB⟩; have hBB : Below wc.heap.size wc wB := below_step (by repeat first | with_reducible assumption | with_reducible exact Below.refl _ _ | with_reducible refine Below.drew ?_ | with_reducible refine below_drewN ?_ _ | with_reducible refine below_alloc ?_ _ (Nat.le_refl _)) hbB))
            all_goals go_wp2_with fail
            all_goals go_meet
            all_goals exact ⟨rfl, hBB⟩
          case rest =>
            obtain ⟨rfl, hbd⟩ := hcut
            have hB9 := hbelc.trans (hbd.mono hbelc.size)
            go_wp2_with fail
            go_roundw
            case rel => exact ⟨k + 1, by omega, by go_num, hB9⟩
            case measure => simp [intOf]; omega
      · obtain rfl : k = nq := by omega
        clear hkn hgP ho8 hbx8 hB8 hnr HLW HQ HRG HNQ HRD hor hbel HLF hbxr
        have hlow : ∀ p ∈ [(lx, ly)], Sm p.1 ∧ Sm p.2 := fun p hp => by
          simp at hp; subst hp; unfold Sm; simp only; omega
        have smb : (Sm lx ∧ Sm ly) ∧ Sm hx ∧ Sm hy := by unfold Sm; omega
        have HI : Hid ([(lx, ly)].filter (fun p => hasB lx ly hx hy p.1 p.2) = [(lx, ly)]) := by
          show _ = _
          simp [hasB]; omega
        have HS : Hid (∀ W, Below wr.heap.size wr W → (W.cell? ⟨bx, 0, none⟩ = some (.int .i64 lx) ∧ W.cell? ⟨bx, 1, none⟩ = some (.int .i64 ly) ∧ W.cell? ⟨bx, 2, none⟩ = some (.int .i64 hx) ∧ W.cell? ⟨bx, 3, none⟩ = some (.int .i64 hy))) :=
          fun W hb => ⟨cell_later hb e0, cell_later hb e1, cell_later hb e2, cell_later hb e3⟩
        go_wp2_with fail
        go_region_held3 (fun W => (W.cell? ⟨bx, 0, none⟩ = some (.int .i64 lx) ∧ W.cell? ⟨bx, 1, none⟩ = some (.int .i64 ly) ∧ W.cell? ⟨bx, 2, none⟩ = some (.int .i64 hx) ∧ W.cell? ⟨bx, 3, none⟩ = some (.int .i64 hy)))
          ((refine HS.out _ ?_; repeat first | with_reducible assumption | with_reducible exact Below.refl _ _ | with_reducible refine Below.drew ?_ | with_reducible refine below_alloc ?_ _ (Nat.le_refl _)))
          (first
            | (go_at_call 14; refine (of_any lx ly hx hy _).mono ?_; rintro e wA ⟨rfl, hbA⟩; have hBA : Below wr.heap.size wr wA := below_step (by repeat first | with_reducible assumption | with_reducible exact Below.refl _ _ | with_reducible refine Below.drew ?_ | with_reducible refine below_drewN ?_ _ | with_reducible refine below_alloc ?_ _ (Nat.le_refl _)) hbA)
            | (go_at_call 15; refine (specPoints_any _ _ [(lx, ly)] 0 _ (by simp) (by first | exact own_new _ 0 (Nat.zero_le _) 25 2 1 [_, _] rfl (by omega) | exact own_below (own_new _ 0 (Nat.zero_le _) 25 2 1 [_, _] rfl (by omega)).drew hbA (by simp) | exact own_below (own_new _ 0 (Nat.zero_le _) 25 2 1 [_, _] rfl (by omega)) hbA (by simp))).mono ?_; rintro e wB ⟨aoB, capB, rfl, hoB, hbB⟩; have hBB : Below wr.heap.size wr wB := below_step (by repeat first | with_reducible assumption | with_reducible exact Below.refl _ _ | with_reducible refine Below.drew ?_ | with_reducible refine below_drewN ?_ _ | with_reducible refine below_alloc ?_ _ (Nat.le_refl _)) hbB)
            | (go_at_call 20; refine (implPoints_any lx ly hx hy smb.1.1 smb.1.2 smb.2.1 smb.2.2 _ _ [(lx, ly)] _ _ hlow (by simp) hoB).mono ?_; rw [HI.out]; rintro e wC ⟨aoC, capC, rfl, hoC, hbC⟩; have hBC : Below wr.heap.size wr wC := below_step (by repeat first | with_reducible assumption | with_reducible exact Below.refl _ _ | with_reducible refine Below.drew ?_ | with_reducible refine below_drewN ?_ _ | with_reducible refine below_alloc ?_ _ (Nat.le_refl _)) hbC))
        all_goals
          go_wp2
          go_ret
          exact ⟨rfl, hBr.trans (hBC.mono hBr.size)⟩
end Go.Proofs.Ytafanlbfbfbeoaa
