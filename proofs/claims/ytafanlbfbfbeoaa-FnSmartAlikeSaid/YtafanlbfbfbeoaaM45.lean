/- What the proofs over smartclip lean on, part 46 of 48. -/
import Derived.Test.YtafanlbfbfbeoaaM01
import Derived.Test.YtafanlbfbfbeoaaM41
import Derived.Test.YtafanlbfbfbeoaaM42
import Derived.Test.YtafanlbfbfbeoaaM36
import Derived.Deep.QuietTactic
import Derived.BigQuiet

/- The walk of FnSmartAlike. -/
namespace Go.Proofs.Ytafanlbfbfbeoaa
open Go.RowKit

set_option maxRecDepth 100000 in
set_option maxHeartbeats 8000000 in
theorem fnSmartAlike_walk (a0 a1 a2 a3 a4 a5 : Int) (a6 : Option Addr) (len6 cap6 : Nat) (z6 : List Int) (w : World) (h0 : -128 ≤ a0) (h0' : a0 ≤ 127) (h1 : -128 ≤ a1) (h1' : a1 ≤ 127) (h2 : -128 ≤ a2) (h2' : a2 ≤ 127) (h3 : -128 ≤ a3) (h3' : a3 ≤ 127)
    (h4 : -128 ≤ a4) (h4' : a4 ≤ 127) (h5 : -128 ≤ a5) (h5' : a5 ≤ 127) (w6 : IsRow .u8 w a6 len6 cap6 z6) :
    Calls Try.prog 6 #[.int .i8 a0, .int .i8 a1, .int .i8 a2, .int .i8 a3, .int .i8 a4, .int .i8 a5, .slice a6 len6 cap6] w fun e w' => e = .returned (.bool true) ∧ Below w.heap.size w w' := by
  by_cases hbig : 2147483647 < (len6 : Int)
  · clear w6
    go_enter Try.func6, Try.ntmps6
    go_wp2
    go_ret
    exact ⟨rfl, Below.refl _ _⟩
  · have hbig' : (len6 : Int) ≤ 2147483647 := by omega
    clear hbig
    go_enter Try.func6, Try.ntmps6
    go_wp2_with fail
    refine (box_any a0 a1 a2 a3 h0 h0' h1 h1' h2 h2' h3 h3' _).mono ?_
    rintro e w1 ⟨lx, ly, hx, hy, rfl, hbox, hb1⟩
    have hnear := hbox.near h0 h0' h1 h1' h2 h2' h3 h3'
    clear hbox h0 h0' h1 h1' h2 h2' h3 h3'
    go_wp2_with fail
    refine (way_walk a4 a5 a6 len6 cap6 z6 h4 h4' h5 h5' _ (w6.below hb1)).mono ?_
    rintro e w2 ⟨ao2, cap2, ps, rfl, hpw, hps0, hps1, hps, ho2, hb2⟩
    have hring := closed_ring hps0 (by omega) hps (by rw [hpw, wayL_head]; exact way_octi _ _ _ (octi_self _))
    have hrl : (closedL ps).length ≤ 100 := by have := closedL_len ps; omega
    clear hpw
    have hB2 := hb1.trans (hb2.mono hb1.size)
    clear w6 h4 h4' h5 h5' hb1 hb2
    go_wp2_with fail
    refine (closed_any ao2 cap2 ps _ _ hps0 (by omega) ho2).mono ?_
    rintro e w3 ⟨ao3, cap3, rfl, ho3, hb3⟩
    have hB3 := hB2.trans (hb3.mono hB2.size)
    clear hb3 ho2 hB2 hps hps0 hps1
    generalize closedL ps = rs at *
    obtain ⟨hrk, hrp⟩ := hring
    have hoct := ring_octi hrk
    go_wp2_with fail
    obtain ⟨wx, hwx⟩ : ∃ wx, wx = w3.alloc (.cells #[.int .i64 lx, .int .i64 ly, .int .i64 hx, .int .i64 hy] 27) := ⟨_, rfl⟩
    have hbx := Blk.new w3 #[.int .i64 lx, .int .i64 ly, .int .i64 hx, .int .i64 hy] 27
    have hB3x : Below w.heap.size w wx := by rw [hwx]; exact below_alloc hB3 _ (Nat.le_refl _)
    have ho3x := ho3.alloc (.cells #[.int .i64 lx, .int .i64 ly, .int .i64 hx, .int .i64 hy] 27)
    obtain ⟨bx, hbx0⟩ : ∃ bx, bx = w3.heap.size := ⟨_, rfl⟩
    rw [← hwx, ← hbx0] at hbx
    rw [← hwx] at ho3x ⊢
    rw [← hbx0]
    clear hwx hbx0 ho3 hB3
    refine (small_any lx ly hx hy (by omega) (by omega) _).mono ?_
    rintro e w4 ⟨rfl, hb4⟩
    have hbx4 := hbx.below hb4 hbx.lt
    have ho4 := own_below ho3x hb4 (Nat.le_refl _)
    have hB4 := hB3x.trans (hb4.mono hB3x.size)
    clear hb4 ho3x hB3x hbx
    obtain ⟨sb, hsb0⟩ : ∃ sb : Bool, sb = (decide (hx - lx ≤ 40) && decide (hy - ly ≤ 40)) := ⟨_, rfl⟩
    rw [← hsb0]
    clear hsb0
    have e0 : w4.cell? ⟨bx, 0, none⟩ = some (.int .i64 lx) := hbx4.cell 0
    have e1 : w4.cell? ⟨bx, 1, none⟩ = some (.int .i64 ly) := hbx4.cell 1
    have e2 : w4.cell? ⟨bx, 2, none⟩ = some (.int .i64 hx) := hbx4.cell 2
    have e3 : w4.cell? ⟨bx, 3, none⟩ = some (.int .i64 hy) := hbx4.cell 3
    cases sb with
    | false =>
      go_wp2_with fail
      go_ret
      exact ⟨rfl, hB4⟩
    | true =>
    clear e0 e1 e2 e3
    go_wp2_with fail
    refine (simple_any _ _ rs _ _ (by omega) hrk.near hoct ho4).mono ?_
    rintro e w3 ⟨b4, rfl, hsb, hb4⟩
    have hbx5 := hbx4.below hb4 hbx4.lt
    have ho5 := own_below ho4 hb4 (Nat.le_refl _)
    have hB5 := hB4.trans (hb4.mono hB4.size)
    clear hb4 ho4 hB4 hbx4
    cases b4 with
    | false =>
      clear hsb
      go_wp2_with fail
      go_ret
      exact ⟨rfl, hB5⟩
    | true =>
    have HSB : Hid (SimpleB (stepsL rs)) := hsb rfl
    have e0 : w3.cell? ⟨bx, 0, none⟩ = some (.int .i64 lx) := hbx5.cell 0
    have e1 : w3.cell? ⟨bx, 1, none⟩ = some (.int .i64 ly) := hbx5.cell 1
    have e2 : w3.cell? ⟨bx, 2, none⟩ = some (.int .i64 hx) := hbx5.cell 2
    have e3 : w3.cell? ⟨bx, 3, none⟩ = some (.int .i64 hy) := hbx5.cell 3
    clear hsb
    go_wp2_with fail
    refine (clear_any lx ly hx hy _ _ rs _ _ (by omega) hrk.near hoct ho5).mono ?_
    rintro e w4 ⟨b5, rfl, hcb, hb5⟩
    have hbx4 := hbx5.below hb5 hbx5.lt
    have ho4 := own_below ho5 hb5 (Nat.le_refl _)
    have hB4 := hB5.trans (hb5.mono hB5.size)
    clear hb5 ho5 hB5 hbx5 e0 e1 e2 e3
    cases b5 with
    | false =>
      clear hcb
      go_wp2_with fail
      go_ret
      exact ⟨rfl, hB4⟩
    | true =>
    obtain ⟨P0, l, hP0, LW⟩ := ringLaw_of (lx := lx) (ly := ly) (hx := hx) (hy := hy) (by unfold Near; omega) (by unfold Near; omega) (by omega) (by omega) hrk HSB.out (hcb rfl) hrl
    have HLW : Hid (RingLaw lx ly hx hy P0 l ∧ rs = P0 :: l) := ⟨LW, hP0⟩
    clear hcb HSB LW hP0
    have hnr : ∀ p ∈ rs, Near p := hrk.near
    clear hrk hoct
    have hlt : lx < hx ∧ ly < hy := by omega
    go_wp2_with fail
    refine (area_any _ _ rs _ _ (by omega) hnr ho4).mono ?_
    rintro e w5 ⟨rfl, hb5⟩
    have hbx5 := hbx4.below hb5 hbx4.lt
    have ho5 := own_below ho4 hb5 (Nat.le_refl _)
    have hB5 := hB4.trans (hb5.mono hB4.size)
    clear hb5 ho4 hB4 hbx4
    obtain ⟨lf, hlf⟩ : ∃ lf : Bool, lf = decide (0 < areaL rs) := ⟨_, rfl⟩
    go_upto_region 7 with fail
    rw [← hlf]
    clear hlf
    obtain ⟨i1, hi', hy0, hy1, hy2⟩ := info_parts Try.info43
    obtain ⟨gp, hgp⟩ : ∃ gp, gp = w5.heap.size := ⟨_, rfl⟩
    obtain ⟨gq, hgq⟩ : ∃ gq, gq = w5.heap.size + 1 := ⟨_, rfl⟩
    have HRG : Hid (∀ g, (Value.slice ao3 rs.length cap3).ownBlock = some g → g ≠ gp ∧ g ≠ gq) := fun g hg => by have := (ho5.lt g hg).2; omega
    obtain ⟨wx, hwx⟩ : ∃ wx, wx = (w5.alloc (.cells #[] 43)).alloc (.cells #[] 43) := ⟨_, rfl⟩
    have hbp : Blk wx gp #[] 43 := by rw [hwx, hgp]; exact (Blk.new _ _ _).alloc _
    have hbq : Blk wx gq #[] 43 := by
      have := Blk.new (w5.alloc (.cells #[] 43)) #[] 43
      rw [World.size_alloc] at this
      rw [hwx, hgq]; exact this
    have hxs : wx.heap.size = w5.heap.size + 2 := by rw [hwx]; simp
    have hBx : Below w.heap.size w wx := by rw [hwx]; exact below_alloc (below_alloc hB5 _ (Nat.le_refl _)) _ (Nat.le_refl _)
    have hbxx : Blk wx bx #[.int .i64 lx, .int .i64 ly, .int .i64 hx, .int .i64 hy] 27 := by rw [hwx]; exact (hbx5.alloc _).alloc _
    have hox := (ho5.alloc (.cells #[] 43)).alloc (.cells #[] 43)
    rw [← hwx] at hox
    have hgpB : w.heap.size ≤ gp := by rw [hgp]; exact hB5.size
    have hgqB : gp + 1 = gq := by rw [hgp, hgq]
    have hbxp : bx ≠ gp ∧ bx ≠ gq := by have := hbx5.lt; omega
    have hgq2 : gq < wx.heap.size := by rw [hxs, hgq]; omega
    have hwsz : w.heap.size ≤ wx.heap.size := hBx.size
    go_upto_region 8 with fail
    rw [← hwx, ← hgp, hgqB]
    clear hwx hgp hgq hbx5 ho5 hB5 hxs
    have e0 : wx.cell? ⟨bx, 0, none⟩ = some (.int .i64 lx) := hbxx.cell 0
    have e1 : wx.cell? ⟨bx, 1, none⟩ = some (.int .i64 ly) := hbxx.cell 1
    have e2 : wx.cell? ⟨bx, 2, none⟩ = some (.int .i64 hx) := hbxx.cell 2
    have e3 : wx.cell? ⟨bx, 3, none⟩ = some (.int .i64 hy) := hbxx.cell 3
    have himpl := fun ao cap B W hr => implSmart_any (lx := lx) (ly := ly) (hx := hx) (hy := hy) lf HLW.out.1 ao cap rs HLW.out.2 B W hr
    have hpoly := fun v rv B W hr => implSmartPoly_any (lx := lx) (ly := ly) (hx := hx) (hy := hy) lf HLW.out.1 v rv rs HLW.out.2 B W hr
    go_wp2_with fail
    refine (of_any lx ly hx hy _).mono ?_
    rintro e w6 ⟨rfl, hb6⟩
    have ho6 := own_below hox hb6 (Nat.le_refl _)
    clear e0 e1 e2 e3
    go_wp2_with fail
    refine (specPoints_any _ _ rs _ _ (by omega) ho6).mono ?_
    rintro e w7 ⟨ao7, cap7, rfl, hp7, hb7⟩
    have hb67 : Below wx.heap.size wx w7 := hb6.trans (hb7.mono hb6.size)
    clear ho6 hb6 hb7
    go_wp2_with fail
    refine (himpl ao7 cap7 _ _ hp7).mono ?_
    rintro e w8 ⟨v8, qs, rfl, HQ, hp8, hb8⟩
    have hb68 : Below wx.heap.size wx w8 := hb67.trans (hb8.mono hb67.size)
    have HB8 : Hid (Below wx.heap.size wx w8) := hb68
    have hs8 : w.heap.size ≤ w8.heap.size := Nat.le_trans hwsz hb68.size
    have hbd := smartQ_bd HLW.out.1 HQ.out
    have HLEN : Hid (∀ x ∈ qs, x.2.length = 1) := fun x hx => (hbd.2 x hx).2
    obtain ⟨nq, hnq⟩ : ∃ nq, nq = qs.length := ⟨_, rfl⟩
    have hnqb : nq ≤ 1000000 := by rw [hnq]; exact hbd.1
    have HNQ : Hid (nq = qs.length) := hnq
    obtain ⟨aoP, capP, hv8, -, -⟩ := id hp8
    rw [← hnq] at hv8
    subst hv8
    have HGS : Hid (Gather w8 w.heap.size (.slice (some ⟨gp, 0, none⟩) 0 0) 0 (ringsOf (qs.take 0)) (.slice aoP nq capP) qs) := Gather.start hgpB (hbp.below hb68 hbp.lt) (hp8.mono (Nat.zero_le _)) HLEN.out
    clear himpl hp7 hp8 hb8 hb67 hb68 hbd hnq
    go_wp2_with fail
    go_loopw [18, 67] (fun vp vi wr => ∃ (k : Nat) (a : Option Addr) (c : Nat), k ≤ nq ∧ vi = .int .i64 k ∧ vp = .slice a k c ∧ Hid (Gather wr w.heap.size (.slice a k c) k (ringsOf (qs.take k)) (.slice aoP nq capP) qs) ∧ KeepsB (fun b => b = gp) w8 wr ∧ Hid (∀ b, (Value.slice a k c).ownBlock = some b → b = gp ∨ w8.heap.size ≤ b))
      (fun _ i _ => nq - (intOf i).toNat)
    case atStart => exact ⟨0, _, _, Nat.zero_le _, rfl, rfl, HGS.out, KeepsB.refl _ _, fun b hb => .inl (by simpa [Value.ownBlock] using hb.symm)⟩
    case round =>
      obtain ⟨k, a, c, hk, rfl, rfl, HG, hK, HOB⟩ := hrel
      have hsz := hK.size
      by_cases hkn : k < nq
      · have hkq : k < qs.length := by rw [← HNQ.out]; exact hkn
        obtain ⟨_, _, gP, hvP, hgP, hrdP⟩ := HG.out.pol.read
        injection hvP with f1 f2 f3
        obtain ⟨h1P, hgsP, _⟩ := hgP (by omega)
        rw [h1P] at f1
        obtain ⟨ax, cx, d0, hrx⟩ := hrdP k hkq
        have hl1 := HLEN.out _ (List.getElem_mem hkq)
        obtain ⟨y, hyq⟩ : ∃ y, qs[k].2 = [y] := by
          cases hc : qs[k].2 with
          | nil => rw [hc] at hl1; simp at hl1
          | cons y t =>
            cases t with
            | nil => exact ⟨y, rfl⟩
            | cons z t => rw [hc] at hl1; simp at hl1
        rw [hyq] at d0 hrx
        simp only [List.length_cons, List.length_nil, Nat.zero_add] at d0 hrx
        obtain ⟨_, _, hvx, hox, hry⟩ := hrx
        injection hvx with g1 g2 g3
        subst g1 g3
        clear g2
        obtain ⟨gx, rfl⟩ : ∃ gx, ax = some ⟨gx, 0, none⟩ := by
          rcases hox.2 with ⟨_, h0⟩ | ⟨g', _, _, hv, _⟩
          · simp at h0
          · injection hv with e1; exact ⟨g', e1⟩
        subst f1
        have HOX : Hid (wr.ownsRow 0 43 1 (.slice (some ⟨gx, 0, none⟩) 1 cx) 1 [y.1]) := hox
        have HRY : Hid (RowAt wr 39 hE y.1 y.2) := hry y (List.mem_singleton_self _)
        have HY : Hid (ringsOf (qs.take (k + 1)) = ringsOf (qs.take k) ++ [y]) := ringsOf_take hkq hyq
        obtain ⟨yv, hyv⟩ : ∃ yv, yv = y.1 := ⟨_, rfl⟩
        have hone : Hid (∀ u ∈ [yv], u.oneCell' = true) := by
          intro u hu
          rw [List.mem_singleton.1 hu, hyv]
          obtain ⟨_, _, hv, _⟩ := HRY.out
          rw [hv]; rfl
        obtain ⟨ZS, hZS⟩ : ∃ ZS : List Value, ZS = (ringsOf (qs.take k)).map Prod.fst := ⟨_, rfl⟩
        have HO : Hid (wr.ownsRow w.heap.size 43 1 (.slice a k c) k ZS) := by rw [hZS]; exact HG.out.own
        have HYV : Hid (yv = y.1 ∧ ZS = (ringsOf (qs.take k)).map Prod.fst) := ⟨hyv, hZS⟩
        rw [← hyv] at HOX
        have hBr : w.heap.size ≤ wr.heap.size := Nat.le_trans hs8 hsz
        have hkz : (k : Int) < (nq : Int) := by omega
        iterate 1 (try clear hyv hZS); (try clear hox); (try clear hry); (try clear hrdP); (try clear hgP); (try clear hl1); (try clear hyq); (try clear f2); (try clear h1P); (try clear f3); (try clear hvx)
        clear hpoly hnr hbp hbq hbxx hox hgpB hgqB hbxp hgq2 hwsz HB8 hBx HGS HLW hlt HQ HLEN HNQ hs8
        go_wp2_with (at_builtin; refine wpList_pushAll rfl _ _ 46 rfl 43 i1 _ 1 24 Try.underlying46 hi' hy0 hy1 hy2 rfl (by decide) (by decide) wr wr w.heap.size (.slice a k c) k ZS rfl HO.out w.heap.size (Below.refl _ _) (Nat.le_refl _) hBr (by omega) [yv] 0 gx 1 cx HOX.out (by omega) (by omega) rfl hone.out hBr ?_)
        intro g2 cap2 w2 hown2 hbel2 hgr2 hat2 hlt2
        have HG2 : Hid (Gather w2 w.heap.size (.slice (some ⟨g2, 0, none⟩) (k + 1) cap2) (k + 1) (ringsOf (qs.take (k + 1))) (.slice (some ⟨gP, 0, none⟩) nq capP) qs) := by
          rw [HY.out]
          exact HG.out.push hgr2 hat2 HRY.out (by rw [← HYV.out.1, ← HYV.out.2]; exact hown2)
        have hK2 : KeepsB (fun b => b = gp) w8 w2 := ⟨hgr2.os.trans hK.os, hgr2.tape.trans hK.tape, hgr2.output.trans hK.output, Nat.le_trans hsz hgr2.size, fun b hb hlb => (hgr2.block b (by omega) (fun e => by
          rcases HOB.out b e.symm with h | h
          · exact hb h
          · omega)).trans (hK.block b hb hlb)⟩
        have HOB2 : Hid (∀ b, (Value.slice (some ⟨g2, 0, none⟩) (k + 1) cap2).ownBlock = some b → b = gp ∨ w8.heap.size ≤ b) := fun b hb => by
          have hb : g2 = b := by simpa [Value.ownBlock] using hb
          subst hb
          rcases hat2 with h | h
          · exact HOB.out _ h
          · right; omega
        clear hown2 hbel2 hgr2 hat2 hlt2 HG hK HOB HO HOX HRY hone HY HYV hBr d0 hgsP
        go_wp2_with fail
        go_roundw
        case rel => exact ⟨k + 1, _, _, by omega, by go_num, rfl, HG2, hK2, HOB2⟩
        case measure => simp [intOf]; omega
      · have ek : nq = k := by omega
        subst ek
        have hkz : ¬ ((nq : Int) < (nq : Int)) := by omega
        clear hkn hk
        have hzs : ringsOf (qs.take nq) = ringsOf qs := by rw [HNQ.out, List.take_length]
        go_upto_region 13 with fail
        have HG1 : Gather wr w.heap.size (.slice a nq c) nq (ringsOf qs) (.slice aoP nq capP) qs := by have := HG.out; rw [hzs] at this; exact this
        have HP : Hid (RowsAt wr w.heap.size 43 39 hE (.slice a nq c) (ringsOf qs)) := HG1.rowsAt
        have hbx6 : Blk wr bx #[.int .i64 lx, .int .i64 ly, .int .i64 hx, .int .i64 hy] 27 := hK.blk (hbxx.below HB8.out hbxx.lt) hbxp.1
        have hbq6 : Blk wr gq #[] 43 := hK.blk (hbq.below HB8.out hbq.lt) (by omega)
        have ho6 := own_keepsB hK (own_below hox HB8.out (Nat.le_refl _)) (fun g hg => (HRG.out g hg).1)
        have hBr : Below w.heap.size w wr := (hBx.trans (HB8.out.mono hwsz)).trans (hK.below hs8 fun b hb => by omega)
        obtain ⟨w6, hw6⟩ : ∃ w6, w6 = wr := ⟨_, rfl⟩
        obtain ⟨a1, ha1⟩ : ∃ a1, a1 = a := ⟨_, rfl⟩
        obtain ⟨c1, hc1⟩ : ∃ c1, c1 = c := ⟨_, rfl⟩
        have HAQ : Hid (∀ b, (Value.slice a nq c).ownBlock = some b → b ≠ gq) := fun b hb => by
          rcases HOB.out b hb with h | h
          · omega
          · have := hbq.lt; have := HB8.out.size; omega
        subst hw6 ha1 hc1
        have HQ1 : Hid (SmartQ (turnI lf) lx ly hx hy P0 l qs) := HQ.out
        have hg2 : w.heap.size ≤ gq := by omega
        clear HG HG1 hzs hK HOB hsz hbxx hbq hbp hox HB8 hBx HNQ HLEN HGS HQ hkz hgq2 hwsz hs8 hgpB hnqb
        have e0 : w6.cell? ⟨bx, 0, none⟩ = some (.int .i64 lx) := hbx6.cell 0
        have e1 : w6.cell? ⟨bx, 1, none⟩ = some (.int .i64 ly) := hbx6.cell 1
        have e2 : w6.cell? ⟨bx, 2, none⟩ = some (.int .i64 hx) := hbx6.cell 2
        have e3 : w6.cell? ⟨bx, 3, none⟩ = some (.int .i64 hy) := hbx6.cell 3
        go_wp2_with fail
        refine (of_any lx ly hx hy _).mono ?_
        rintro e w10 ⟨rfl, hb10⟩
        have ho10 := own_below ho6 hb10 (Nat.le_refl _)
        clear e0 e1 e2 e3
        go_wp2_with fail
        refine (specPoints_any _ _ rs _ _ (by omega) ho10).mono ?_
        rintro e w11 ⟨ao11, cap11, rfl, hp11, hb11⟩
        have hb611 : Below w6.heap.size w6 w11 := hb10.trans (hb11.mono hb10.size)
        have hrow : RowsAt (w11.alloc (.cells #[.slice ao11 rs.length cap11] 43)) 0 43 39 ptE (.slice (some ⟨w11.heap.size, 0, none⟩) 1 1) [(.slice ao11 rs.length cap11, rs)] := by
          refine ⟨_, _, rfl, own_new w11 0 (Nat.zero_le _) 43 1 1 [_] rfl (by omega), fun x hx => ?_⟩
          rw [List.mem_singleton.1 hx]
          exact ⟨_, _, rfl, (own_mono hp11 (Nat.zero_le _)).alloc _⟩
        clear ho6 ho10 hp11
        go_wp2_with fail
        refine (hpoly _ _ 0 _ hrow).mono ?_
        rintro e w9 ⟨v9, qs2, rfl, HQ, hp9, hb9⟩
        have hb69 : Below w6.heap.size w6 w9 := (below_alloc hb611 _ (Nat.le_refl _)).trans (hb9.mono (by simp; have := hb611.size; omega))
        have HPK : Hid (∀ W, KeepsB (fun b => b = gq) w9 W → RowsAt W w.heap.size 43 39 hE (.slice a1 nq c1) (ringsOf qs)) := fun W hK => by
          have h9 := HP.out.below hb69 (Nat.le_refl _)
          exact rows_keepsB hbq6 hb69 HAQ.out h9 hK
        have HQ2 : Hid (SmartQ (turnI lf) lx ly hx hy P0 l qs2) := HQ.out
        have hbx9 : Blk w9 bx #[.int .i64 lx, .int .i64 ly, .int .i64 hx, .int .i64 hy] 27 := hbx6.below hb69 hbx6.lt
        have hB9 : Below w.heap.size w w9 := hBr.trans (hb69.mono hBr.size)
        have hs9 : w.heap.size ≤ w9.heap.size := hB9.size
        have hbd := smartQ_bd HLW.out.1 HQ.out
        have HLEN : Hid (∀ x ∈ qs2, x.2.length = 1) := fun x hx => (hbd.2 x hx).2
        obtain ⟨nq2, hnq⟩ : ∃ nq2, nq2 = qs2.length := ⟨_, rfl⟩
        have hnqb : nq2 ≤ 1000000 := by rw [hnq]; exact hbd.1
        have HNQ : Hid (nq2 = qs2.length) := hnq
        obtain ⟨aoP2, capP2, hv9, -, -⟩ := id hp9
        rw [← hnq] at hv9
        subst hv9
        have HGS : Hid (Gather w9 w.heap.size (.slice (some ⟨gq, 0, none⟩) 0 0) 0 (ringsOf (qs2.take 0)) (.slice aoP2 nq2 capP2) qs2) := Gather.start hg2 (hbq6.below hb69 hbq6.lt) (hp9.mono (Nat.zero_le _)) HLEN.out
        clear hpoly hrow hp9 hb9 hb611 hb11 hb10 hb69 hbd hnq hbx6 hbq6 hBr HP HAQ HRG HQ
        go_wp2_with fail
        go_loopw [19, 83] (fun vp vi wr => ∃ (k : Nat) (a : Option Addr) (c : Nat), k ≤ nq2 ∧ vi = .int .i64 k ∧ vp = .slice a k c ∧ Hid (Gather wr w.heap.size (.slice a k c) k (ringsOf (qs2.take k)) (.slice aoP2 nq2 capP2) qs2) ∧ KeepsB (fun b => b = gq) w9 wr ∧ Hid (∀ b, (Value.slice a k c).ownBlock = some b → b = gq ∨ w9.heap.size ≤ b))
          (fun _ i _ => nq2 - (intOf i).toNat)
        case atStart => exact ⟨0, _, _, Nat.zero_le _, rfl, rfl, HGS.out, KeepsB.refl _ _, fun b hb => .inl (by simpa [Value.ownBlock] using hb.symm)⟩
        case round =>
          obtain ⟨k, a, c, hk, rfl, rfl, HG, hK, HOB⟩ := hrel
          have hsz := hK.size
          by_cases hkn : k < nq2
          · have hkq : k < qs2.length := by rw [← HNQ.out]; exact hkn
            obtain ⟨_, _, gP, hvP, hgP, hrdP⟩ := HG.out.pol.read
            injection hvP with f1 f2 f3
            obtain ⟨h1P, hgsP, _⟩ := hgP (by omega)
            rw [h1P] at f1
            obtain ⟨ax, cx, d0, hrx⟩ := hrdP k hkq
            have hl1 := HLEN.out _ (List.getElem_mem hkq)
            obtain ⟨y, hyq⟩ : ∃ y, qs2[k].2 = [y] := by
              cases hc : qs2[k].2 with
              | nil => rw [hc] at hl1; simp at hl1
              | cons y t =>
                cases t with
                | nil => exact ⟨y, rfl⟩
                | cons z t => rw [hc] at hl1; simp at hl1
            rw [hyq] at d0 hrx
            simp only [List.length_cons, List.length_nil, Nat.zero_add] at d0 hrx
            obtain ⟨_, _, hvx, hox, hry⟩ := hrx
            injection hvx with g1 g2 g3
            subst g1 g3
            clear g2
            obtain ⟨gx, rfl⟩ : ∃ gx, ax = some ⟨gx, 0, none⟩ := by
              rcases hox.2 with ⟨_, h0⟩ | ⟨g', _, _, hv, _⟩
              · simp at h0
              · injection hv with e1; exact ⟨g', e1⟩
            subst f1
            have HOX : Hid (wr.ownsRow 0 43 1 (.slice (some ⟨gx, 0, none⟩) 1 cx) 1 [y.1]) := hox
            have HRY : Hid (RowAt wr 39 hE y.1 y.2) := hry y (List.mem_singleton_self _)
            have HY : Hid (ringsOf (qs2.take (k + 1)) = ringsOf (qs2.take k) ++ [y]) := ringsOf_take hkq hyq
            obtain ⟨yv, hyv⟩ : ∃ yv, yv = y.1 := ⟨_, rfl⟩
            have hone : Hid (∀ u ∈ [yv], u.oneCell' = true) := by
              intro u hu
              rw [List.mem_singleton.1 hu, hyv]
              obtain ⟨_, _, hv, _⟩ := HRY.out
              rw [hv]; rfl
            obtain ⟨ZS, hZS⟩ : ∃ ZS : List Value, ZS = (ringsOf (qs2.take k)).map Prod.fst := ⟨_, rfl⟩
            have HO : Hid (wr.ownsRow w.heap.size 43 1 (.slice a k c) k ZS) := by rw [hZS]; exact HG.out.own
            have HYV : Hid (yv = y.1 ∧ ZS = (ringsOf (qs2.take k)).map Prod.fst) := ⟨hyv, hZS⟩
            rw [← hyv] at HOX
            have hBr : w.heap.size ≤ wr.heap.size := Nat.le_trans hs9 hsz
            have hkz : (k : Int) < (nq2 : Int) := by omega
            iterate 1 (try clear hyv hZS); (try clear hox); (try clear hry); (try clear hrdP); (try clear hgP); (try clear hl1); (try clear hyq); (try clear f2); (try clear h1P); (try clear f3); (try clear hvx)
            clear HLW hlt HQ1 HQ2 HLEN HNQ hs9 HGS HPK hB9 hbx9 hnr hbxp hg2
            go_wp2_with (at_builtin; refine wpList_pushAll rfl _ _ 46 rfl 43 i1 _ 1 24 Try.underlying46 hi' hy0 hy1 hy2 rfl (by decide) (by decide) wr wr w.heap.size (.slice a k c) k ZS rfl HO.out w.heap.size (Below.refl _ _) (Nat.le_refl _) hBr (by omega) [yv] 0 gx 1 cx HOX.out (by omega) (by omega) rfl hone.out hBr ?_)
            intro g2 cap2 w2 hown2 hbel2 hgr2 hat2 hlt2
            have HG2 : Hid (Gather w2 w.heap.size (.slice (some ⟨g2, 0, none⟩) (k + 1) cap2) (k + 1) (ringsOf (qs2.take (k + 1))) (.slice (some ⟨gP, 0, none⟩) nq2 capP2) qs2) := by
              rw [HY.out]
              exact HG.out.push hgr2 hat2 HRY.out (by rw [← HYV.out.1, ← HYV.out.2]; exact hown2)
            have hK2 : KeepsB (fun b => b = gq) w9 w2 := ⟨hgr2.os.trans hK.os, hgr2.tape.trans hK.tape, hgr2.output.trans hK.output, Nat.le_trans hsz hgr2.size, fun b hb hlb => (hgr2.block b (by omega) (fun e => by
              rcases HOB.out b e.symm with h | h
              · exact hb h
              · omega)).trans (hK.block b hb hlb)⟩
            have HOB2 : Hid (∀ b, (Value.slice (some ⟨g2, 0, none⟩) (k + 1) cap2).ownBlock = some b → b = gq ∨ w9.heap.size ≤ b) := fun b hb => by
              have hb : g2 = b := by simpa [Value.ownBlock] using hb
              subst hb
              rcases hat2 with h | h
              · exact HOB.out _ h
              · right; omega
            clear hown2 hbel2 hgr2 hat2 hlt2 HG hK HOB HO HOX HRY hone HY HYV hBr d0 hgsP
            go_wp2_with fail
            go_roundw
            case rel => exact ⟨k + 1, _, _, by omega, by go_num, rfl, HG2, hK2, HOB2⟩
            case measure => simp [intOf]; omega
          · have ek : nq2 = k := by omega
            subst ek
            have hkz : ¬ ((nq2 : Int) < (nq2 : Int)) := by omega
            clear hkn hk
            have hzs : ringsOf (qs2.take nq2) = ringsOf qs2 := by rw [HNQ.out, List.take_length]

            go_upto_region 18 with fail
            have HG2 : Gather wr w.heap.size (.slice a nq2 c) nq2 (ringsOf qs2) (.slice aoP2 nq2 capP2) qs2 := by have := HG.out; rw [hzs] at this; exact this
            have hr6 : RowsAt wr w.heap.size 43 39 hE (.slice a nq2 c) (ringsOf qs2) := HG2.rowsAt
            have hr5 : RowsAt wr w.heap.size 43 39 hE (.slice a1 nq c1) (ringsOf qs) := HPK.out _ hK
            have hbx6 : Blk wr bx #[.int .i64 lx, .int .i64 ly, .int .i64 hx, .int .i64 hy] 27 := hK.blk hbx9 hbxp.2
            have hBr : Below w.heap.size w wr := hB9.trans (hK.below hs9 fun b hb => by omega)
            have hok1 := smartQ_ok (turn_or lf) HLW.out.1 HQ1.out
            have hok2 := smartQ_ok (turn_or lf) HLW.out.1 HQ2.out
            have hsame : (ringsOf qs).map Prod.snd = (ringsOf qs2).map Prod.snd := by
              obtain ⟨r1, s1, t1⟩ := smartQ_rings HQ1.out
              obtain ⟨r2, s2, t2⟩ := smartQ_rings HQ2.out
              rw [t1, t2, smartR_same s1 s2]
            generalize ringsOf qs = zs1 at *
            generalize ringsOf qs2 = zs2 at *
            generalize Value.slice a1 nq c1 = v1 at *
            generalize Value.slice a nq2 c = v2 at *
            clear HG HG2 hzs hK hsz hbx9 hbxp hB9 hs9 HOB HNQ HLEN HGS HLW HQ1 HQ2 HPK hkz
            have hh1 := fun W hW => halves_any lx ly hx hy (by omega) (by omega) (by omega) (by omega) v1 zs1 w.heap.size W hok1.1 hok1.2.1 hok1.2.2 hW
            have hh2 := fun W hW => halves_any lx ly hx hy (by omega) (by omega) (by omega) (by omega) v2 zs2 w.heap.size W hok2.1 hok2.2.1 hok2.2.2 hW
            have e0 : wr.cell? ⟨bx, 0, none⟩ = some (.int .i64 lx) := hbx6.cell 0
            have e1 : wr.cell? ⟨bx, 1, none⟩ = some (.int .i64 ly) := hbx6.cell 1
            have e2 : wr.cell? ⟨bx, 2, none⟩ = some (.int .i64 hx) := hbx6.cell 2
            have e3 : wr.cell? ⟨bx, 3, none⟩ = some (.int .i64 hy) := hbx6.cell 3
            go_wp2_with fail
            refine (hh1 _ hr5).mono ?_
            rintro e w10 ⟨va, xs, rfl, hxs, hra, hb10⟩
            have hr6' := hr6.below hb10 (Nat.le_refl _)
            have hbx7 := hbx6.below hb10 hbx6.lt
            have hB10 := hBr.trans (hb10.mono hBr.size)
            clear hh1 hr5 hr6 hbx6 hBr hb10 e0 e1 e2 e3
            have e0 : w10.cell? ⟨bx, 0, none⟩ = some (.int .i64 lx) := hbx7.cell 0
            have e1 : w10.cell? ⟨bx, 1, none⟩ = some (.int .i64 ly) := hbx7.cell 1
            have e2 : w10.cell? ⟨bx, 2, none⟩ = some (.int .i64 hx) := hbx7.cell 2
            have e3 : w10.cell? ⟨bx, 3, none⟩ = some (.int .i64 hy) := hbx7.cell 3
            go_wp2_with fail
            refine (hh2 _ hr6').mono ?_
            rintro e w11 ⟨vb, ys, rfl, hys, hrb, hb11⟩
            have hra2 := (hra.below hb11 (Nat.le_refl _)).mono (Nat.zero_le _)
            have hrb2 := hrb.mono (Nat.zero_le _)
            have hbx8 := hbx7.below hb11 hbx7.lt
            have hB11 := hB10.trans (hb11.mono hB10.size)
            clear hh2 hr6' hbx7 hB10 hb11 e0 e1 e2 e3 hra hrb
            have e0 : w11.cell? ⟨bx, 0, none⟩ = some (.int .i64 lx) := hbx8.cell 0
            have e1 : w11.cell? ⟨bx, 1, none⟩ = some (.int .i64 ly) := hbx8.cell 1
            have e2 : w11.cell? ⟨bx, 2, none⟩ = some (.int .i64 hx) := hbx8.cell 2
            have e3 : w11.cell? ⟨bx, 3, none⟩ = some (.int .i64 hy) := hbx8.cell 3
            have hfl : ∀ (zs us : List (Value × List (Int × Int))), us.map Prod.snd = zs.map Prod.snd → ((∀ x ∈ zs, ∀ p ∈ x.2, hasB (2 * lx) (2 * ly) (2 * hx) (2 * hy) p.1 p.2 = true) ∧ (∀ x ∈ zs, x.2.length ≤ 100000) ∧ zs.length ≤ 1000) →
                (∀ x ∈ us, x.2.length ≤ 100000 ∧ ∀ p ∈ x.2, NearD p) ∧ us.length ≤ 1000 := fun zs us hu ⟨o1, o2, o3⟩ => by
              have hm : ∀ x ∈ us, ∃ z ∈ zs, z.2 = x.2 := fun x hx => by
                have : x.2 ∈ zs.map Prod.snd := by rw [← hu]; exact List.mem_map_of_mem hx
                obtain ⟨z, hz, e⟩ := List.mem_map.1 this
                exact ⟨z, hz, e⟩
              refine ⟨fun x hx => ?_, by rw [← List.length_map (f := Prod.snd), hu, List.length_map]; exact o3⟩
              obtain ⟨z, hz, e⟩ := hm x hx
              rw [← e]
              exact ⟨o2 z hz, fun p hp => (near_in hnear (o1 z hz p hp)).dbl.1⟩
            obtain ⟨n1, l1⟩ := hfl zs1 xs hxs hok1
            obtain ⟨n2, l2⟩ := hfl zs2 ys hys hok2
            have hsum : ∀ X Y, lx ≤ X → X < hx → ly ≤ Y → Y < hy → sumWJ X Y xs = sumWJ X Y ys := fun X Y _ _ _ _ => by rw [sumW_sndJ, sumW_sndJ, hxs, hys, hsame]
            have har := fun W a b => aroundTwice_any lx ly hx hy (by omega) (by omega) va vb xs ys 0 0 W n1 n2 l1 l2 hsum a b
            have HRA : Hid (RowsAt w11 0 29 25 spotE va xs ∧ RowsAt w11 0 29 25 spotE vb ys) := ⟨hra2, hrb2⟩
            have hlow : ∀ p ∈ [(lx, ly)], Sm p.1 ∧ Sm p.2 := fun p hp => by
              simp at hp; subst hp; unfold Sm; simp only; omega
            have smb : (Sm lx ∧ Sm ly) ∧ Sm hx ∧ Sm hy := by unfold Sm; omega
            have HI : Hid ([(lx, ly)].filter (fun p => hasB lx ly hx hy p.1 p.2) = [(lx, ly)]) := by
              show _ = _
              simp [hasB]; omega
            have HS : Hid (∀ W, Below w11.heap.size w11 W → (W.cell? ⟨bx, 0, none⟩ = some (.int .i64 lx) ∧ W.cell? ⟨bx, 1, none⟩ = some (.int .i64 ly) ∧ W.cell? ⟨bx, 2, none⟩ = some (.int .i64 hx) ∧ W.cell? ⟨bx, 3, none⟩ = some (.int .i64 hy))) :=
              fun W hb => ⟨cell_later hb e0, cell_later hb e1, cell_later hb e2, cell_later hb e3⟩
            clear hfl hsum hok1 hok2 hxs hys hsame n1 n2 l1 l2 hra2 hrb2 hbx8
            go_wp2_with fail
            go_region_held3 (fun W => (W.cell? ⟨bx, 0, none⟩ = some (.int .i64 lx) ∧ W.cell? ⟨bx, 1, none⟩ = some (.int .i64 ly) ∧ W.cell? ⟨bx, 2, none⟩ = some (.int .i64 hx) ∧ W.cell? ⟨bx, 3, none⟩ = some (.int .i64 hy)))
              ((refine HS.out _ ?_; repeat first | with_reducible assumption | with_reducible exact Below.refl _ _ | with_reducible refine Below.drew ?_ | with_reducible refine below_alloc ?_ _ (Nat.le_refl _)))
              (first
                | (go_at_call 22; refine (har _ (HRA.out.1.below (C := w11.heap.size) (by repeat first | with_reducible assumption | with_reducible exact Below.refl _ _ | with_reducible refine Below.drew ?_ | with_reducible refine below_alloc ?_ _ (Nat.le_refl _)) (Nat.le_refl _)) (HRA.out.2.below (C := w11.heap.size) (by repeat first | with_reducible assumption | with_reducible exact Below.refl _ _ | with_reducible refine Below.drew ?_ | with_reducible refine below_alloc ?_ _ (Nat.le_refl _)) (Nat.le_refl _))).mono ?_; rintro e wD ⟨rfl, hbD⟩; have hBD : Below w11.heap.size w11 wD := below_step (by repeat first | with_reducible assumption | with_reducible exact Below.refl _ _ | with_reducible refine Below.drew ?_ | with_reducible refine below_alloc ?_ _ (Nat.le_refl _)) hbD)
                | (go_at_call 14; refine (of_any lx ly hx hy _).mono ?_; rintro e wA ⟨rfl, hbA⟩; have hBA : Below w11.heap.size w11 wA := below_step (by repeat first | with_reducible assumption | with_reducible exact Below.refl _ _ | with_reducible refine Below.drew ?_ | with_reducible refine below_alloc ?_ _ (Nat.le_refl _)) hbA)
                | (go_at_call 15; refine (specPoints_any _ _ [(lx, ly)] 0 _ (by simp) (by first | exact own_new _ 0 (Nat.zero_le _) 25 2 1 [_, _] rfl (by omega) | exact own_below (own_new _ 0 (Nat.zero_le _) 25 2 1 [_, _] rfl (by omega)).drew hbA (by simp) | exact own_below (own_new _ 0 (Nat.zero_le _) 25 2 1 [_, _] rfl (by omega)) hbA (by simp))).mono ?_; rintro e wB ⟨aoB, capB, rfl, hoB, hbB⟩; have hBB : Below w11.heap.size w11 wB := below_step (by repeat first | with_reducible assumption | with_reducible exact Below.refl _ _ | with_reducible refine Below.drew ?_ | with_reducible refine below_alloc ?_ _ (Nat.le_refl _)) hbB)
                | (go_at_call 20; refine (implPoints_any lx ly hx hy smb.1.1 smb.1.2 smb.2.1 smb.2.2 _ _ [(lx, ly)] _ _ hlow (by simp) hoB).mono ?_; rw [HI.out]; rintro e wC ⟨aoC, capC, rfl, hoC, hbC⟩; have hBC : Below w11.heap.size w11 wC := below_step (by repeat first | with_reducible assumption | with_reducible exact Below.refl _ _ | with_reducible refine Below.drew ?_ | with_reducible refine below_alloc ?_ _ (Nat.le_refl _)) hbC))
            all_goals
              go_wp2
              go_ret
              exact ⟨rfl, hB11.trans (hBC.mono hB11.size)⟩
end Go.Proofs.Ytafanlbfbfbeoaa
