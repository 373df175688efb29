/- What the proofs over smartclip lean on, part 48 of 48. -/
import Derived.Test.YtafanlbfbfbeoaaM01
import Derived.Test.YtafanlbfbfbeoaaM41
import Derived.Test.YtafanlbfbfbeoaaM43
import Derived.Test.YtafanlbfbfbeoaaM44
import Derived.Test.YtafanlbfbfbeoaaM42
import Derived.Test.YtafanlbfbfbeoaaM36
import Derived.Deep.QuietTactic
import Derived.BigQuiet

/- The walk of FnSmartWinds. -/
namespace Go.Proofs.Ytafanlbfbfbeoaa
open Go.RowKit

set_option maxRecDepth 100000 in
set_option maxHeartbeats 8000000 in
theorem fnSmartWinds_walk (a0 a1 a2 a3 a4 a5 : Int) (a6 : Option Addr) (len6 cap6 : Nat) (z6 : List Int) (w : World) (h0 : -128 ≤ a0) (h0' : a0 ≤ 127) (h1 : -128 ≤ a1) (h1' : a1 ≤ 127) (h2 : -128 ≤ a2) (h2' : a2 ≤ 127) (h3 : -128 ≤ a3) (h3' : a3 ≤ 127)
    (h4 : -128 ≤ a4) (h4' : a4 ≤ 127) (h5 : -128 ≤ a5) (h5' : a5 ≤ 127) (w6 : IsRow .u8 w a6 len6 cap6 z6) :
    Calls Try.prog 5 #[.int .i8 a0, .int .i8 a1, .int .i8 a2, .int .i8 a3, .int .i8 a4, .int .i8 a5, .slice a6 len6 cap6] w fun e w' => e = .returned (.bool true) ∧ Below w.heap.size w w' := by
  by_cases hbig : 2147483647 < (len6 : Int)
  · clear w6
    go_enter Try.func5, Try.ntmps5
    go_wp2
    go_ret
    exact ⟨rfl, Below.refl _ _⟩
  · have hbig' : (len6 : Int) ≤ 2147483647 := by omega
    clear hbig
    go_enter Try.func5, Try.ntmps5
    go_wp2_with fail
    refine (box_any a0 a1 a2 a3 h0 h0' h1 h1' h2 h2' h3 h3' _).mono ?_
    rintro e w1 ⟨lx, ly, hx, hy, rfl, hbox, hb1⟩
    have hnear := hbox.near h0 h0' h1 h1' h2 h2' h3 h3'
    clear hbox h0 h0' h1 h1' h2 h2' h3 h3'
    go_wp2_with fail
    refine (way_walk a4 a5 a6 len6 cap6 z6 h4 h4' h5 h5' _ (w6.below hb1)).mono ?_
    rintro e w2 ⟨ao2, cap2, ps, rfl, hpw, hps0, hps1, hps, ho2, hb2⟩
    have hring := closed_ring hps0 (by omega) hps (by rw [hpw, wayL_head]; exact way_octi _ _ _ (octi_self _))
    have hrl : (closedL ps).length ≤ 100 := by have := closedL_len ps; omega
    clear hpw
    have hB2 := hb1.trans (hb2.mono hb1.size)
    clear w6 h4 h4' h5 h5' hb1 hb2
    go_wp2_with fail
    refine (closed_any ao2 cap2 ps _ _ hps0 (by omega) ho2).mono ?_
    rintro e w3 ⟨ao3, cap3, rfl, ho3, hb3⟩
    have hB3 := hB2.trans (hb3.mono hB2.size)
    clear hb3 ho2 hB2 hps hps0 hps1
    generalize closedL ps = rs at *
    obtain ⟨hrk, hrp⟩ := hring
    have hoct := ring_octi hrk
    go_wp2_with fail
    obtain ⟨wx, hwx⟩ : ∃ wx, wx = w3.alloc (.cells #[.int .i64 lx, .int .i64 ly, .int .i64 hx, .int .i64 hy] 27) := ⟨_, rfl⟩
    have hbx := Blk.new w3 #[.int .i64 lx, .int .i64 ly, .int .i64 hx, .int .i64 hy] 27
    have hB3x : Below w.heap.size w wx := by rw [hwx]; exact below_alloc hB3 _ (Nat.le_refl _)
    have ho3x := ho3.alloc (.cells #[.int .i64 lx, .int .i64 ly, .int .i64 hx, .int .i64 hy] 27)
    obtain ⟨bx, hbx0⟩ : ∃ bx, bx = w3.heap.size := ⟨_, rfl⟩
    rw [← hwx, ← hbx0] at hbx
    rw [← hwx] at ho3x ⊢
    rw [← hbx0]
    clear hwx hbx0 ho3 hB3
    refine (small_any lx ly hx hy (by omega) (by omega) _).mono ?_
    rintro e w4 ⟨rfl, hb4⟩
    have hbx4 := hbx.below hb4 hbx.lt
    have ho4 := own_below ho3x hb4 (Nat.le_refl _)
    have hB4 := hB3x.trans (hb4.mono hB3x.size)
    clear hb4 ho3x hB3x hbx
    obtain ⟨sb, hsb0⟩ : ∃ sb : Bool, sb = (decide (hx - lx ≤ 40) && decide (hy - ly ≤ 40)) := ⟨_, rfl⟩
    rw [← hsb0]
    clear hsb0
    have e0 : w4.cell? ⟨bx, 0, none⟩ = some (.int .i64 lx) := hbx4.cell 0
    have e1 : w4.cell? ⟨bx, 1, none⟩ = some (.int .i64 ly) := hbx4.cell 1
    have e2 : w4.cell? ⟨bx, 2, none⟩ = some (.int .i64 hx) := hbx4.cell 2
    have e3 : w4.cell? ⟨bx, 3, none⟩ = some (.int .i64 hy) := hbx4.cell 3
    cases sb with
    | false =>
      go_wp2_with fail
      go_ret
      exact ⟨rfl, hB4⟩
    | true =>
    clear e0 e1 e2 e3
    go_wp2_with fail
    refine (simple_any _ _ rs _ _ (by omega) hrk.near hoct ho4).mono ?_
    rintro e w3 ⟨b4, rfl, hsb, hb4⟩
    have hbx5 := hbx4.below hb4 hbx4.lt
    have ho5 := own_below ho4 hb4 (Nat.le_refl _)
    have hB5 := hB4.trans (hb4.mono hB4.size)
    clear hb4 ho4 hB4 hbx4
    cases b4 with
    | false =>
      clear hsb
      go_wp2_with fail
      go_ret
      exact ⟨rfl, hB5⟩
    | true =>
    have HSB : Hid (SimpleB (stepsL rs)) := hsb rfl
    have e0 : w3.cell? ⟨bx, 0, none⟩ = some (.int .i64 lx) := hbx5.cell 0
    have e1 : w3.cell? ⟨bx, 1, none⟩ = some (.int .i64 ly) := hbx5.cell 1
    have e2 : w3.cell? ⟨bx, 2, none⟩ = some (.int .i64 hx) := hbx5.cell 2
    have e3 : w3.cell? ⟨bx, 3, none⟩ = some (.int .i64 hy) := hbx5.cell 3
    clear hsb
    go_wp2_with fail
    refine (clear_any lx ly hx hy _ _ rs _ _ (by omega) hrk.near hoct ho5).mono ?_
    rintro e w4 ⟨b5, rfl, hcb, hb5⟩
    have hbx4 := hbx5.below hb5 hbx5.lt
    have ho4 := own_below ho5 hb5 (Nat.le_refl _)
    have hB4 := hB5.trans (hb5.mono hB5.size)
    clear hb5 ho5 hB5 hbx5 e0 e1 e2 e3
    cases b5 with
    | false =>
      clear hcb
      go_wp2_with fail
      go_ret
      exact ⟨rfl, hB4⟩
    | true =>
    obtain ⟨P0, l, hP0, LW⟩ := ringLaw_of (lx := lx) (ly := ly) (hx := hx) (hy := hy) (by unfold Near; omega) (by unfold Near; omega) (by omega) (by omega) hrk HSB.out (hcb rfl) hrl
    have HLW : Hid (RingLaw lx ly hx hy P0 l ∧ rs = P0 :: l) := ⟨LW, hP0⟩
    clear hcb HSB LW hP0
    have hnr : ∀ p ∈ rs, Near p := hrk.near
    have HOC : Hid (OctiL (rs.headD (0, 0)) rs) := hoct
    clear hrk hoct
    have hlt : lx < hx ∧ ly < hy := by omega
    have e0 : w4.cell? ⟨bx, 0, none⟩ = some (.int .i64 lx) := hbx4.cell 0
    have e1 : w4.cell? ⟨bx, 1, none⟩ = some (.int .i64 ly) := hbx4.cell 1
    have e2 : w4.cell? ⟨bx, 2, none⟩ = some (.int .i64 hx) := hbx4.cell 2
    have e3 : w4.cell? ⟨bx, 3, none⟩ = some (.int .i64 hy) := hbx4.cell 3
    go_wp2_with fail
    refine (outside_any lx ly hx hy (by omega) (by omega) _ _ rs _ _ (by omega) hnr HOC.out ho4).mono ?_
    rintro e w5 ⟨b6, rfl, hob, hb5⟩
    have hbx5 := hbx4.below hb5 hbx4.lt
    have ho5 := own_below ho4 hb5 (Nat.le_refl _)
    have hB5 := hB4.trans (hb5.mono hB4.size)
    clear hb5 ho4 hB4 hbx4 HOC e0 e1 e2 e3
    cases b6 with
    | true =>
      clear hob
      go_wp2_with fail
      go_ret
      exact ⟨rfl, hB5⟩
    | false =>
    have HOUT : Hid (((stepsL rs).filter fun s => keepB false lx ly hx hy s.1 s.2) = [] → windI lx ly rs = 0) := hob rfl
    clear hob
    obtain ⟨i1, hi', hy0, hy1, hy2⟩ := info_parts Try.info43
    obtain ⟨gp, hgp⟩ : ∃ gp, gp = w5.heap.size := ⟨_, rfl⟩
    obtain ⟨wx, hwx⟩ : ∃ wx, wx = w5.alloc (.cells #[] 43) := ⟨_, rfl⟩
    have hbp : Blk wx gp #[] 43 := by rw [hwx, hgp]; exact Blk.new _ _ _
    have HRG : Hid (∀ g, (Value.slice ao3 rs.length cap3).ownBlock = some g → g ≠ gp) := fun g hg => by have := (ho5.lt g hg).2; omega
    have hBx : Below w.heap.size w wx := by rw [hwx]; exact below_alloc hB5 _ (Nat.le_refl _)
    have hbxx : Blk wx bx #[.int .i64 lx, .int .i64 ly, .int .i64 hx, .int .i64 hy] 27 := by rw [hwx]; exact hbx5.alloc _
    have hox := ho5.alloc (.cells #[] 43)
    rw [← hwx] at hox
    have hgpB : w.heap.size ≤ gp := by rw [hgp]; exact hB5.size
    have hbxp : bx ≠ gp := by have := hbx5.lt; omega
    go_upto_region 7 with fail
    rw [← hwx, ← hgp]
    clear hwx hgp hbx5 ho5 hB5
    have e0 : wx.cell? ⟨bx, 0, none⟩ = some (.int .i64 lx) := hbxx.cell 0
    have e1 : wx.cell? ⟨bx, 1, none⟩ = some (.int .i64 ly) := hbxx.cell 1
    have e2 : wx.cell? ⟨bx, 2, none⟩ = some (.int .i64 hx) := hbxx.cell 2
    have e3 : wx.cell? ⟨bx, 3, none⟩ = some (.int .i64 hy) := hbxx.cell 3
    obtain ⟨lf, hlf⟩ : ∃ lf : Bool, decide (0 < areaL rs) = lf := ⟨_, rfl⟩
    have himpl := fun ao cap B W hr => implSmart_any (lx := lx) (ly := ly) (hx := hx) (hy := hy) (decide (0 < areaL rs)) HLW.out.1 ao cap rs HLW.out.2 B W hr
    rw [hlf] at himpl
    have HLF : Hid (decide (0 < areaL rs) = lf) := hlf
    clear hlf
    go_wp2_with fail
    refine (of_any lx ly hx hy _).mono ?_
    rintro e w5 ⟨rfl, hb5⟩
    have ho5 := own_below hox hb5 (Nat.le_refl _)
    clear e0 e1 e2 e3
    go_wp2_with fail
    refine (specPoints_any _ _ rs _ _ (by omega) ho5).mono ?_
    rintro e w6 ⟨ao6, cap6, rfl, hp6, hb6⟩
    have ho6 := own_below ho5 hb6 (Nat.le_refl _)
    have hb56 : Below wx.heap.size wx w6 := hb5.trans (hb6.mono hb5.size)
    clear hb6 ho5 hb5
    go_wp2_with fail
    refine (area_any _ _ rs _ _ (by omega) hnr ho6).mono ?_
    rintro e w7 ⟨rfl, hb7⟩
    have hp7 := own_below hp6 hb7 (Nat.le_refl _)
    have hb57 : Below wx.heap.size wx w7 := hb56.trans (hb7.mono hb56.size)
    clear hb7 hp6 ho6 hb56
    go_wp2_with fail
    rw [HLF.out]
    refine (himpl ao6 cap6 _ _ hp7).mono ?_
    rintro e w8 ⟨v8, qs, rfl, HQ, hp8, hb8⟩
    have hb68 : Below wx.heap.size wx w8 := hb57.trans (hb8.mono hb57.size)
    have HB8 : Hid (Below wx.heap.size wx w8) := hb68
    have hs8 : w.heap.size ≤ w8.heap.size := Nat.le_trans hBx.size hb68.size
    have hbd := smartQ_bd HLW.out.1 HQ.out
    have HLEN : Hid (∀ x ∈ qs, x.2.length = 1) := fun x hx => (hbd.2 x hx).2
    obtain ⟨nq, hnq⟩ : ∃ nq, nq = qs.length := ⟨_, rfl⟩
    have hnqb : nq ≤ 1000000 := by rw [hnq]; exact hbd.1
    have HNQ : Hid (nq = qs.length) := hnq
    obtain ⟨aoP, capP, hv8, -, -⟩ := id hp8
    rw [← hnq] at hv8
    subst hv8
    have HGS : Hid (Gather w8 w.heap.size (.slice (some ⟨gp, 0, none⟩) 0 0) 0 (ringsOf (qs.take 0)) (.slice aoP nq capP) qs) := Gather.start hgpB (hbp.below hb68 hbp.lt) (hp8.mono (Nat.zero_le _)) HLEN.out
    clear himpl hp7 hp8 hb8 hb57 hb68 hbd hnq hbp
    go_wp2_with fail
    go_loopw [17, 64] (fun vp vi wr => ∃ (k : Nat) (a : Option Addr) (c : Nat), k ≤ nq ∧ vi = .int .i64 k ∧ vp = .slice a k c ∧ Hid (Gather wr w.heap.size (.slice a k c) k (ringsOf (qs.take k)) (.slice aoP nq capP) qs) ∧ KeepsB (fun b => b = gp) w8 wr ∧ Hid (∀ b, (Value.slice a k c).ownBlock = some b → b = gp ∨ w8.heap.size ≤ b))
      (fun _ i _ => nq - (intOf i).toNat)
    case atStart => exact ⟨0, _, _, Nat.zero_le _, rfl, rfl, HGS.out, KeepsB.refl _ _, fun b hb => .inl (by simpa [Value.ownBlock] using hb.symm)⟩
    case round =>
      obtain ⟨k, a, c, hk, rfl, rfl, HG, hK, HOB⟩ := hrel
      have hsz := hK.size
      by_cases hkn : k < nq
      · have hkq : k < qs.length := by rw [← HNQ.out]; exact hkn
        obtain ⟨_, _, gP, hvP, hgP, hrdP⟩ := HG.out.pol.read
        injection hvP with f1 f2 f3
        obtain ⟨h1P, hgsP, _⟩ := hgP (by omega)
        rw [h1P] at f1
        obtain ⟨ax, cx, d0, hrx⟩ := hrdP k hkq
        have hl1 := HLEN.out _ (List.getElem_mem hkq)
        obtain ⟨y, hyq⟩ : ∃ y, qs[k].2 = [y] := by
          cases hc : qs[k].2 with
          | nil => rw [hc] at hl1; simp at hl1
          | cons y t =>
            cases t with
            | nil => exact ⟨y, rfl⟩
            | cons z t => rw [hc] at hl1; simp at hl1
        rw [hyq] at d0 hrx
        simp only [List.length_cons, List.length_nil, Nat.zero_add] at d0 hrx
        obtain ⟨_, _, hvx, hox, hry⟩ := hrx
        injection hvx with g1 g2 g3
        subst g1 g3
        clear g2
        obtain ⟨gx, rfl⟩ : ∃ gx, ax = some ⟨gx, 0, none⟩ := by
          rcases hox.2 with ⟨_, h0⟩ | ⟨g', _, _, hv, _⟩
          · simp at h0
          · injection hv with e1; exact ⟨g', e1⟩
        subst f1
        have HOX : Hid (wr.ownsRow 0 43 1 (.slice (some ⟨gx, 0, none⟩) 1 cx) 1 [y.1]) := hox
        have HRY : Hid (RowAt wr 39 hE y.1 y.2) := hry y (List.mem_singleton_self _)
        have HY : Hid (ringsOf (qs.take (k + 1)) = ringsOf (qs.take k) ++ [y]) := ringsOf_take hkq hyq
        obtain ⟨yv, hyv⟩ : ∃ yv, yv = y.1 := ⟨_, rfl⟩
        have hone : Hid (∀ u ∈ [yv], u.oneCell' = true) := by
          intro u hu
          rw [List.mem_singleton.1 hu, hyv]
          obtain ⟨_, _, hv, _⟩ := HRY.out
          rw [hv]; rfl
        obtain ⟨ZS, hZS⟩ : ∃ ZS : List Value, ZS = (ringsOf (qs.take k)).map Prod.fst := ⟨_, rfl⟩
        have HO : Hid (wr.ownsRow w.heap.size 43 1 (.slice a k c) k ZS) := by rw [hZS]; exact HG.out.own
        have HYV : Hid (yv = y.1 ∧ ZS = (ringsOf (qs.take k)).map Prod.fst) := ⟨hyv, hZS⟩
        rw [← hyv] at HOX
        have hBr : w.heap.size ≤ wr.heap.size := Nat.le_trans hs8 hsz
        have hkz : (k : Int) < (nq : Int) := by omega
        iterate 1 (try clear hyv hZS); (try clear hox); (try clear hry); (try clear hrdP); (try clear hgP); (try clear hl1); (try clear hyq); (try clear f2); (try clear h1P); (try clear f3); (try clear hvx)
        clear hnr hbxx hox hgpB hbxp HB8 hBx HGS HLW hlt HQ HLEN HNQ hs8 HRG HOUT HLF
        go_wp2_with (at_builtin; refine wpList_pushAll rfl _ _ 46 rfl 43 i1 _ 1 24 Try.underlying46 hi' hy0 hy1 hy2 rfl (by decide) (by decide) wr wr w.heap.size (.slice a k c) k ZS rfl HO.out w.heap.size (Below.refl _ _) (Nat.le_refl _) hBr (by omega) [yv] 0 gx 1 cx HOX.out (by omega) (by omega) rfl hone.out hBr ?_)
        intro g2 cap2 w2 hown2 hbel2 hgr2 hat2 hlt2
        have HG2 : Hid (Gather w2 w.heap.size (.slice (some ⟨g2, 0, none⟩) (k + 1) cap2) (k + 1) (ringsOf (qs.take (k + 1))) (.slice (some ⟨gP, 0, none⟩) nq capP) qs) := by
          rw [HY.out]
          exact HG.out.push hgr2 hat2 HRY.out (by rw [← HYV.out.1, ← HYV.out.2]; exact hown2)
        have hK2 : KeepsB (fun b => b = gp) w8 w2 := ⟨hgr2.os.trans hK.os, hgr2.tape.trans hK.tape, hgr2.output.trans hK.output, Nat.le_trans hsz hgr2.size, fun b hb hlb => (hgr2.block b (by omega) (fun e => by
          rcases HOB.out b e.symm with h | h
          · exact hb h
          · omega)).trans (hK.block b hb hlb)⟩
        have HOB2 : Hid (∀ b, (Value.slice (some ⟨g2, 0, none⟩) (k + 1) cap2).ownBlock = some b → b = gp ∨ w8.heap.size ≤ b) := fun b hb => by
          have hb : g2 = b := by simpa [Value.ownBlock] using hb
          subst hb
          rcases hat2 with h | h
          · exact HOB.out _ h
          · right; omega
        clear hown2 hbel2 hgr2 hat2 hlt2 HG hK HOB HO HOX HRY hone HY HYV hBr d0 hgsP
        go_wp2_with fail
        go_roundw
        case rel => exact ⟨k + 1, _, _, by omega, by go_num, rfl, HG2, hK2, HOB2⟩
        case measure => simp [intOf]; omega
      · have ek : nq = k := by omega
        subst ek
        have hkz : ¬ ((nq : Int) < (nq : Int)) := by omega
        clear hkn hk
        have hzs : ringsOf (qs.take nq) = ringsOf qs := by rw [HNQ.out, List.take_length]
        go_upto_region 12 with fail
        have HG1 : Gather wr w.heap.size (.slice a nq c) nq (ringsOf qs) (.slice aoP nq capP) qs := by have := HG.out; rw [hzs] at this; exact this
        have hr5 : RowsAt wr w.heap.size 43 39 hE (.slice a nq c) (ringsOf qs) := HG1.rowsAt
        have hbx6 : Blk wr bx #[.int .i64 lx, .int .i64 ly, .int .i64 hx, .int .i64 hy] 27 := hK.blk (hbxx.below HB8.out hbxx.lt) hbxp
        have hor := own_keepsB hK (own_below hox HB8.out (Nat.le_refl _)) HRG.out
        have hBr : Below w.heap.size w wr := (hBx.trans (HB8.out.mono hBx.size)).trans (hK.below hs8 fun b hb => by omega)
        have hok := smartQ_ok (turn_or lf) HLW.out.1 HQ.out
        have hcount : ∀ X Y, lx ≤ X → X < hx → ly ≤ Y → Y < hy → (((ringsOf qs).map Prod.snd).map (windIJ X Y)).sum = windIJ X Y (rs.map dblP) := fun X Y x1 x2 y1 y2 => by
          obtain ⟨res, s1, t1⟩ := smartQ_rings HQ.out
          have hlfp := HLF.out
          have hout := HOUT.out
          have hrs := HLW.out.2
          rw [hrs] at hlfp hout ⊢
          rw [t1]
          exact smart_counts HLW.out.1 (by rw [← hlfp]; unfold turnI; simp) s1 (fun hn => hout (none_within HLW.out.1 hn).1) ⟨x1, x2⟩ ⟨y1, y2⟩
        generalize ringsOf qs = zs1 at *
        obtain ⟨v1, hv1⟩ : ∃ v1, v1 = Value.slice a nq c := ⟨_, rfl⟩
        rw [← hv1] at hr5 ⊢
        clear HG HG1 hzs hK hsz hbxx hbxp HOB HNQ HLEN HGS HLW HQ hkz HB8 hBx HRG HOUT HLF hgpB hox hs8 hv1 hnqb
        have hh1 := fun W hW => halves_any lx ly hx hy (by omega) (by omega) (by omega) (by omega) v1 zs1 w.heap.size W hok.1 hok.2.1 hok.2.2 hW
        have e0 : wr.cell? ⟨bx, 0, none⟩ = some (.int .i64 lx) := hbx6.cell 0
        have e1 : wr.cell? ⟨bx, 1, none⟩ = some (.int .i64 ly) := hbx6.cell 1
        have e2 : wr.cell? ⟨bx, 2, none⟩ = some (.int .i64 hx) := hbx6.cell 2
        have e3 : wr.cell? ⟨bx, 3, none⟩ = some (.int .i64 hy) := hbx6.cell 3
        go_wp2_with fail
        refine (hh1 _ hr5).mono ?_
        rintro e w11 ⟨va, xs, rfl, hxs, hra, hb10⟩
        have hbx8 := hbx6.below hb10 hbx6.lt
        have hor2 := own_below hor hb10 (Nat.le_refl _)
        have hB11 := hBr.trans (hb10.mono hBr.size)
        have hra2 := hra.mono (Nat.zero_le _)
        clear hh1 hr5 hbx6 hBr hb10 e0 e1 e2 e3 hra hor
        have e0 : w11.cell? ⟨bx, 0, none⟩ = some (.int .i64 lx) := hbx8.cell 0
        have e1 : w11.cell? ⟨bx, 1, none⟩ = some (.int .i64 ly) := hbx8.cell 1
        have e2 : w11.cell? ⟨bx, 2, none⟩ = some (.int .i64 hx) := hbx8.cell 2
        have e3 : w11.cell? ⟨bx, 3, none⟩ = some (.int .i64 hy) := hbx8.cell 3
        have hfl : (∀ x ∈ xs, x.2.length ≤ 100000 ∧ ∀ p ∈ x.2, NearD p) ∧ xs.length ≤ 1000 := by
          obtain ⟨o1, o2, o3⟩ := hok
          have hm : ∀ x ∈ xs, ∃ z ∈ zs1, z.2 = x.2 := fun x hx => by
            have : x.2 ∈ zs1.map Prod.snd := by rw [← hxs]; exact List.mem_map_of_mem hx
            obtain ⟨z, hz, e⟩ := List.mem_map.1 this
            exact ⟨z, hz, e⟩
          refine ⟨fun x hx => ?_, by rw [← List.length_map (f := Prod.snd), hxs, List.length_map]; exact o3⟩
          obtain ⟨z, hz, e⟩ := hm x hx
          rw [← e]
          exact ⟨o2 z hz, fun p hp => (near_in hnear (o1 z hz p hp)).dbl.1⟩
        have hsum : ∀ (u : Value) X Y, lx ≤ X → X < hx → ly ≤ Y → Y < hy → sumWJ X Y xs = sumWJ X Y [(u, rs.map dblP)] := fun u X Y x1 x2 y1 y2 => by
          rw [sumW_sndJ, sumW_sndJ, hxs, hcount X Y x1 x2 y1 y2]
          simp
        have htl : (rs.map dblP).length = rs.length := List.length_map ..
        obtain ⟨ts, hts⟩ : ∃ ts, ts = rs.map dblP := ⟨_, rfl⟩
        rw [← hts] at hsum htl
        have hdn : ∀ (u : Value), ∀ x ∈ [(u, ts)], x.2.length ≤ 100000 ∧ ∀ p ∈ x.2, NearD p := fun u x hx => by
          rw [List.mem_singleton.1 hx]
          refine ⟨by show ts.length ≤ 100000; omega, fun p hp => ?_⟩
          rw [show (u, ts).2 = ts from rfl, hts] at hp
          obtain ⟨q, hq, rfl⟩ := List.mem_map.1 hp
          exact (hnr q hq).dbl.2
        have har := fun W (u : Value) v2 a b => aroundTwice_any lx ly hx hy (by omega) (by omega) va v2 xs [(u, ts)] 0 0 W hfl.1 (hdn u) hfl.2 (by simp) (hsum u) a b
        have htw : ∀ W, W.ownsRow w2.heap.size 25 2 (.slice ao3 rs.length cap3) rs.length (rs.flatMap spotE) → Calls Try.prog 23 #[.slice ao3 rs.length cap3] W
            fun e w' => ∃ ao' cap', e = .returned (.slice ao' ts.length cap') ∧ w'.ownsRow W.heap.size 25 2 (.slice ao' ts.length cap') ts.length (ts.flatMap spotE) ∧ Below W.heap.size W w' := fun W hW =>
          (twice_any ao3 cap3 rs w2.heap.size W (by omega) hnr hW).mono fun e w' h => by
            obtain ⟨a', c', q1, q2, q3⟩ := h
            rw [← hts, ← htl] at q2
            rw [← htl] at q1
            exact ⟨a', c', q1, q2, q3⟩
        have HRA : Hid (RowsAt w11 0 29 25 spotE va xs) := hra2
        have HOR : Hid (w11.ownsRow w2.heap.size 25 2 (.slice ao3 rs.length cap3) rs.length (rs.flatMap spotE)) := hor2
        have HTW : Hid (∀ W, W.ownsRow w2.heap.size 25 2 (.slice ao3 rs.length cap3) rs.length (rs.flatMap spotE) → Calls Try.prog 23 #[.slice ao3 rs.length cap3] W
            fun e w' => ∃ ao' cap', e = .returned (.slice ao' ts.length cap') ∧ w'.ownsRow W.heap.size 25 2 (.slice ao' ts.length cap') ts.length (ts.flatMap spotE) ∧ Below W.heap.size W w') := htw
        have HAR : Hid (∀ W u v2 a, _) := har
        have hlow : ∀ p ∈ [(lx, ly)], Sm p.1 ∧ Sm p.2 := fun p hp => by
          simp at hp; subst hp; unfold Sm; simp only; omega
        have smb : (Sm lx ∧ Sm ly) ∧ Sm hx ∧ Sm hy := by unfold Sm; omega
        have HI : Hid ([(lx, ly)].filter (fun p => hasB lx ly hx hy p.1 p.2) = [(lx, ly)]) := by
          show _ = _
          simp [hasB]; omega
        have HS : Hid (∀ W, Below w11.heap.size w11 W → (W.cell? ⟨bx, 0, none⟩ = some (.int .i64 lx) ∧ W.cell? ⟨bx, 1, none⟩ = some (.int .i64 ly) ∧ W.cell? ⟨bx, 2, none⟩ = some (.int .i64 hx) ∧ W.cell? ⟨bx, 3, none⟩ = some (.int .i64 hy))) :=
          fun W hb => ⟨cell_later hb e0, cell_later hb e1, cell_later hb e2, cell_later hb e3⟩
        clear hfl hsum hok hxs hra2 hor2 hbx8 hcount htw har hdn hnr hts
        clear htl
        go_wp2_with fail
        go_region_held3 (fun W => (W.cell? ⟨bx, 0, none⟩ = some (.int .i64 lx) ∧ W.cell? ⟨bx, 1, none⟩ = some (.int .i64 ly) ∧ W.cell? ⟨bx, 2, none⟩ = some (.int .i64 hx) ∧ W.cell? ⟨bx, 3, none⟩ = some (.int .i64 hy)))
          ((refine HS.out _ ?_; repeat first | with_reducible assumption | with_reducible exact Below.refl _ _ | with_reducible refine Below.drew ?_ | with_reducible refine below_alloc ?_ _ (Nat.le_refl _)))
          (first
            | (go_at_call 23; with_reducible refine (HTW.out _ (own_below (C := w11.heap.size) HOR.out (by repeat first | with_reducible assumption | with_reducible exact Below.refl _ _ | with_reducible refine Below.drew ?_ | with_reducible refine below_drewN ?_ _ | with_reducible refine below_alloc ?_ _ (Nat.le_refl _)) (Nat.le_refl _))).mono ?_; rintro e wT ⟨aoT, capT, rfl, hoT, hbT⟩; have hBT : Below w11.heap.size w11 wT := below_step (by repeat first | with_reducible assumption | with_reducible exact Below.refl _ _ | with_reducible refine Below.drew ?_ | with_reducible refine below_drewN ?_ _ | with_reducible refine below_alloc ?_ _ (Nat.le_refl _)) hbT)
            | (go_at_call 22; refine (HAR.out _ (.slice aoT ts.length capT) _ (HRA.out.below (C := w11.heap.size) (by repeat first | with_reducible assumption | with_reducible exact Below.refl _ _ | with_reducible refine Below.drew ?_ | with_reducible refine below_drewN ?_ _ | with_reducible refine below_alloc ?_ _ (Nat.le_refl _)) (Nat.le_refl _)) (by first | exact rows_one (Nat.zero_le _) hoT | exact (rows_one (Nat.zero_le _) hoT).drew | exact rows_one (Nat.zero_le _) hoT.drew)).mono ?_; rintro e wD ⟨rfl, hbD⟩; have hBD : Below w11.heap.size w11 wD := below_step (by repeat first | with_reducible assumption | with_reducible exact Below.refl _ _ | with_reducible refine Below.drew ?_ | with_reducible refine below_drewN ?_ _ | with_reducible refine below_alloc ?_ _ (Nat.le_refl _)) hbD)
            | (go_at_call 14; refine (of_any lx ly hx hy _).mono ?_; rintro e wA ⟨rfl, hbA⟩; have hBA : Below w11.heap.size w11 wA := below_step (by repeat first | with_reducible assumption | with_reducible exact Below.refl _ _ | with_reducible refine Below.drew ?_ | with_reducible refine below_drewN ?_ _ | with_reducible refine below_alloc ?_ _ (Nat.le_refl _)) hbA)
            | (go_at_call 15; refine (specPoints_any _ _ [(lx, ly)] 0 _ (by simp) (by first | exact own_new _ 0 (Nat.zero_le _) 25 2 1 [_, _] rfl (by omega) | exact own_below (own_new _ 0 (Nat.zero_le _) 25 2 1 [_, _] rfl (by omega)).drew hbA (by simp) | exact own_below (own_new _ 0 (Nat.zero_le _) 25 2 1 [_, _] rfl (by omega)) hbA (by simp))).mono ?_; rintro e wB ⟨aoB, capB, rfl, hoB, hbB⟩; have hBB : Below w11.heap.size w11 wB := below_step (by repeat first | with_reducible assumption | with_reducible exact Below.refl _ _ | with_reducible refine Below.drew ?_ | with_reducible refine below_drewN ?_ _ | with_reducible refine below_alloc ?_ _ (Nat.le_refl _)) hbB)
            | (go_at_call 20; refine (implPoints_any lx ly hx hy smb.1.1 smb.1.2 smb.2.1 smb.2.2 _ _ [(lx, ly)] _ _ hlow (by simp) hoB).mono ?_; rw [HI.out]; rintro e wC ⟨aoC, capC, rfl, hoC, hbC⟩; have hBC : Below w11.heap.size w11 wC := below_step (by repeat first | with_reducible assumption | with_reducible exact Below.refl _ _ | with_reducible refine Below.drew ?_ | with_reducible refine below_drewN ?_ _ | with_reducible refine below_alloc ?_ _ (Nat.le_refl _)) hbC))
        all_goals
          go_wp2
          go_ret
          exact ⟨rfl, hB11.trans (hBC.mono hB11.size)⟩
end Go.Proofs.Ytafanlbfbfbeoaa
