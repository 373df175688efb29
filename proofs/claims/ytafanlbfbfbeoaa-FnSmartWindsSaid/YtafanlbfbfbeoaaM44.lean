/- What the proofs over smartclip lean on, part 45 of 48. -/
import Derived.Test.YtafanlbfbfbeoaaM32
import Derived.Deep.QuietTactic
import Derived.BigQuiet
import Derived.Test.YtafanlbfbfbeoaaM02
import Derived.Test.YtafanlbfbfbeoaaM40
import Derived.Test.YtafanlbfbfbeoaaM34

/- Whether steps are the same, and those of steps that are in a box. -/
namespace Go.Proofs.Ytafanlbfbfbeoaa
open Go.RowKit

set_option maxRecDepth 100000 in
set_option maxHeartbeats 1000000 in
theorem along_any (lx ly hx hy : Int) (s : (Int × Int) × (Int × Int)) (w : World) :
    Calls Try.prog 44 #[.agg #[.int .i64 lx, .int .i64 ly, .int .i64 hx, .int .i64 hy], .agg #[.int .i64 s.1.1, .int .i64 s.1.2, .int .i64 s.2.1, .int .i64 s.2.2]] w
      fun e w' => e = .returned (.bool (alongB lx ly hx hy s.1 s.2)) ∧ Below w.heap.size w w' := by
  go_enter Try.func44, Try.ntmps44
  go_wp2
  all_goals
    go_ret
    refine ⟨ret_bool ?_, ((Below.refl _ _).alloc (Nat.le_refl _) _).alloc (by simp) _⟩
    unfold alongB
    rw [Bool.eq_iff_iff]
    simp only [Bool.or_eq_true, Bool.and_eq_true, decide_eq_true_iff, beq_iff_eq, true_iff, false_iff, Bool.false_eq_true]
    omega

set_option maxRecDepth 100000 in
set_option maxHeartbeats 2000000 in
theorem within_any (o : Bool) (lx ly hx hy : Int) (ao : Option Addr) (cap : Nat) (ss : List ((Int × Int) × (Int × Int))) (B : Nat) (w : World) (hl : ss.length ≤ 100000000) (h : w.ownsRow B 63 4 (.slice ao ss.length cap) ss.length (ss.flatMap stepE)) :
    Calls Try.prog 34 #[.agg #[.int .i64 lx, .int .i64 ly, .int .i64 hx, .int .i64 hy], .slice ao ss.length cap, .bool o] w
      fun e w' => ∃ ao' cap', e = .returned (.slice ao' (ss.filter fun s => keepB o lx ly hx hy s.1 s.2).length cap') ∧
        w'.ownsRow w.heap.size 63 4 (.slice ao' (ss.filter fun s => keepB o lx ly hx hy s.1 s.2).length cap') (ss.filter fun s => keepB o lx ly hx hy s.1 s.2).length ((ss.filter fun s => keepB o lx ly hx hy s.1 s.2).flatMap stepE) ∧ Below w.heap.size w w' := by
  obtain ⟨i0, hi, hz0, hz1, hz2⟩ := info_parts Try.info63
  obtain ⟨g, hg, hc⟩ := steps_read h
  clear h
  go_enter Try.func34, Try.ntmps34
  go_wp2_with fail
  go_loopw [7, 13] (fun v i wr => ∃ (k : Nat) (ao' : Option Addr) (cap' : Nat) (qs : List ((Int × Int) × (Int × Int))), k ≤ ss.length ∧ i = .int .i64 k ∧ v = .slice ao' qs.length cap' ∧ Hid (qs = (ss.take k).filter fun s => keepB o lx ly hx hy s.1 s.2) ∧
      wr.ownsRow (w.heap.size + 1) 63 4 (.slice ao' qs.length cap') qs.length (qs.flatMap stepE) ∧ Blk wr w.heap.size #[.int .i64 lx, .int .i64 ly, .int .i64 hx, .int .i64 hy] 27 ∧ Below w.heap.size w wr)
    (fun _ i _ => ss.length - (intOf i).toNat)
  case atStart =>
    have ho0 := own_new (w.alloc (.cells #[.int .i64 lx, .int .i64 ly, .int .i64 hx, .int .i64 hy] 27)) (w.heap.size + 1) (by simp) 63 4 0 [] rfl (by omega)
    rw [World.size_alloc] at ho0
    exact ⟨0, _, _, [], Nat.zero_le _, rfl, rfl, rfl, ho0, (Blk.new _ _ _).alloc _, ((Below.refl _ _).alloc (Nat.le_refl _) _).alloc (by simp) _⟩
  case round =>
    obtain ⟨k, ao', cap', qs, hk, rfl, rfl, HQ, hown, hbox, hbel⟩ := hrel
    by_cases hlt : k < ss.length
    · obtain ⟨rfl, hgs, _⟩ := hg (by omega)
      obtain ⟨c0, c1, c2, c3⟩ := hc k hlt
      have hql : qs.length ≤ 100000000 := by rw [HQ.out]; exact Nat.le_trans (List.length_filter_le _ _) (by rw [List.length_take]; omega)
      have HT : Hid ((ss.take (k + 1)).filter (fun s => keepB o lx ly hx hy s.1 s.2) = qs ++ [ss[k]].filter (fun s => keepB o lx ly hx hy s.1 s.2)) := by
        rw [List.take_succ_eq_append_getElem hlt, List.filter_append, HQ.out]; exact rfl
      obtain ⟨s, hs⟩ : ∃ s, s = ss[k] := ⟨_, rfl⟩
      rw [← hs] at c0 c1 c2 c3 HT
      have c0 := (hbel.cell (by exact hgs)).trans c0
      have c1 := (hbel.cell (by exact hgs)).trans c1
      have c2 := (hbel.cell (by exact hgs)).trans c2
      have c3 := (hbel.cell (by exact hgs)).trans c3
      have e0 : wr.cell? ⟨w.heap.size, 0, none⟩ = some (.int .i64 lx) := hbox.cell 0
      have e1 : wr.cell? ⟨w.heap.size, 1, none⟩ = some (.int .i64 ly) := hbox.cell 1
      have e2 : wr.cell? ⟨w.heap.size, 2, none⟩ = some (.int .i64 hx) := hbox.cell 2
      have e3 : wr.cell? ⟨w.heap.size, 3, none⟩ = some (.int .i64 hy) := hbox.cell 3
      have hbl := hbox.lt
      have hsz := hbel.size
      clear hs hc hg HQ
      have hA := has_any lx ly hx hy s.1.1 s.1.2
      have hC := has_any lx ly hx hy s.2.1 s.2.2
      have hL := along_any lx ly hx hy s
      obtain ⟨ba, hba⟩ : ∃ ba, ba = hasB lx ly hx hy s.1.1 s.1.2 := ⟨_, rfl⟩
      obtain ⟨bc, hbc⟩ : ∃ bc, bc = hasB lx ly hx hy s.2.1 s.2.2 := ⟨_, rfl⟩
      obtain ⟨bl, hbl2⟩ : ∃ bl, bl = alongB lx ly hx hy s.1 s.2 := ⟨_, rfl⟩
      have HK : Hid (keepB o lx ly hx hy s.1 s.2 = (ba && bc && !(o && bl))) := by show _ = _; rw [hba, hbc, hbl2]; rfl
      rw [← hba] at hA
      rw [← hbc] at hC
      rw [← hbl2] at hL
      clear hba hbc hbl2
      obtain ⟨gs, hgs0⟩ : ∃ gs, gs = wr.heap.size := ⟨_, rfl⟩
      have bs := Blk.new wr #[.int .i64 s.1.1, .int .i64 s.1.2, .int .i64 s.2.1, .int .i64 s.2.2] 63
      have hown1 := hown.alloc (.cells #[.int .i64 s.1.1, .int .i64 s.1.2, .int .i64 s.2.1, .int .i64 s.2.2] 63)
      have hbox1 := hbox.alloc (.cells #[.int .i64 s.1.1, .int .i64 s.1.2, .int .i64 s.2.1, .int .i64 s.2.2] 63)
      have hbel1 := hbel.alloc hsz (.cells #[.int .i64 s.1.1, .int .i64 s.1.2, .int .i64 s.2.1, .int .i64 s.2.2] 63)
      rw [← hgs0] at bs
      have hgo : ∀ g, (Value.slice ao' qs.length cap').ownBlock = some g → g ≠ gs := fun g hg e => by have := (hown.lt g hg).2; omega
      go_upto_region 5 with fail
      obtain ⟨w1, hw1⟩ : ∃ w1, w1 = wr.alloc (.cells #[.int .i64 s.1.1, .int .i64 s.1.2, .int .i64 s.2.1, .int .i64 s.2.2] 63) := ⟨_, rfl⟩
      rw [← hw1] at bs hown1 hbox1 hbel1 ⊢
      rw [← hgs0]
      clear hw1 hgs0 c0 c1 c2 c3 e0 e1 e2 e3 hbl hsz hown hbox hbel
      go_cut [35] (fun v wd => v = .bool (ba && bc && !(o && bl)) ∧ Below w1.heap.size w1 wd)
      case first =>
        have f0 : w1.cell? ⟨w.heap.size, 0, none⟩ = some (.int .i64 lx) := hbox1.cell 0
        have f1 : w1.cell? ⟨w.heap.size, 1, none⟩ = some (.int .i64 ly) := hbox1.cell 1
        have f2 : w1.cell? ⟨w.heap.size, 2, none⟩ = some (.int .i64 hx) := hbox1.cell 2
        have f3 : w1.cell? ⟨w.heap.size, 3, none⟩ = some (.int .i64 hy) := hbox1.cell 3
        have t0 : w1.cell? ⟨gs, 0, none⟩ = some (.int .i64 s.1.1) := bs.cell 0
        have t1 : w1.cell? ⟨gs, 1, none⟩ = some (.int .i64 s.1.2) := bs.cell 1
        have t2 : w1.cell? ⟨gs, 2, none⟩ = some (.int .i64 s.2.1) := bs.cell 2
        have t3 : w1.cell? ⟨gs, 3, none⟩ = some (.int .i64 s.2.2) := bs.cell 3
        go_wp2_with fail
        refine (hA _).mono ?_
        rintro e w2 ⟨rfl, hb2⟩
        have hbox2 := hbox1.below hb2 hbox1.lt
        have bs2 := bs.below hb2 bs.lt
        clear f0 f1 f2 f3 t0 t1 t2 t3
        cases ba
        · go_wp2_with fail
          go_meet
          exact ⟨rfl, hb2⟩
        · skip
          have f0 : w2.cell? ⟨w.heap.size, 0, none⟩ = some (.int .i64 lx) := hbox2.cell 0
          have f1 : w2.cell? ⟨w.heap.size, 1, none⟩ = some (.int .i64 ly) := hbox2.cell 1
          have f2 : w2.cell? ⟨w.heap.size, 2, none⟩ = some (.int .i64 hx) := hbox2.cell 2
          have f3 : w2.cell? ⟨w.heap.size, 3, none⟩ = some (.int .i64 hy) := hbox2.cell 3
          have t0 : w2.cell? ⟨gs, 0, none⟩ = some (.int .i64 s.1.1) := bs2.cell 0
          have t1 : w2.cell? ⟨gs, 1, none⟩ = some (.int .i64 s.1.2) := bs2.cell 1
          have t2 : w2.cell? ⟨gs, 2, none⟩ = some (.int .i64 s.2.1) := bs2.cell 2
          have t3 : w2.cell? ⟨gs, 3, none⟩ = some (.int .i64 s.2.2) := bs2.cell 3
          go_wp2_with fail
          refine (hC _).mono ?_
          rintro e w3 ⟨rfl, hb3⟩
          have hbox3 := hbox2.below hb3 hbox2.lt
          have bs3 := bs2.below hb3 bs2.lt
          have hb13 := hb2.trans (hb3.mono hb2.size)
          clear f0 f1 f2 f3 t0 t1 t2 t3
          cases bc
          · go_wp2_with fail
            go_meet
            exact ⟨rfl, hb13⟩
          · skip
            have f0 : w3.cell? ⟨w.heap.size, 0, none⟩ = some (.int .i64 lx) := hbox3.cell 0
            have f1 : w3.cell? ⟨w.heap.size, 1, none⟩ = some (.int .i64 ly) := hbox3.cell 1
            have f2 : w3.cell? ⟨w.heap.size, 2, none⟩ = some (.int .i64 hx) := hbox3.cell 2
            have f3 : w3.cell? ⟨w.heap.size, 3, none⟩ = some (.int .i64 hy) := hbox3.cell 3
            have t0 : w3.cell? ⟨gs, 0, none⟩ = some (.int .i64 s.1.1) := bs3.cell 0
            have t1 : w3.cell? ⟨gs, 1, none⟩ = some (.int .i64 s.1.2) := bs3.cell 1
            have t2 : w3.cell? ⟨gs, 2, none⟩ = some (.int .i64 s.2.1) := bs3.cell 2
            have t3 : w3.cell? ⟨gs, 3, none⟩ = some (.int .i64 s.2.2) := bs3.cell 3
            cases o
            · go_wp2_with fail
              go_meet
              exact ⟨rfl, hb13⟩
            · go_wp2_with fail
              refine (hL _).mono ?_
              rintro e w4 ⟨rfl, hb4⟩
              clear f0 f1 f2 f3 t0 t1 t2 t3
              cases bl
              · go_wp2_with fail
                go_meet
                exact ⟨rfl, hb13.trans (hb4.mono hb13.size)⟩
              · go_wp2_with fail
                go_meet
                exact ⟨rfl, hb13.trans (hb4.mono hb13.size)⟩
      case rest =>
        obtain ⟨rfl, hb⟩ := hcut
        have bs2 := bs.below hb bs.lt
        have hbox2 := hbox1.below hb hbox1.lt
        have hown2 := own_below hown1 hb (Nat.le_refl _)
        have hbel2 := hbel1.trans (hb.mono hbel1.size)
        obtain ⟨kb, hkb⟩ : ∃ kb, kb = (ba && bc && !(o && bl)) := ⟨_, rfl⟩
        rw [← hkb]
        rw [← hkb] at HK
        clear hkb bs hbox1 hown1 hbel1 hb hA hC hL
        obtain ⟨wq, rfl⟩ : ∃ wq, wq = wc := ⟨_, rfl⟩
        have t0 : wq.cell? ⟨gs, 0, none⟩ = some (.int .i64 s.1.1) := bs2.cell 0
        have t1 : wq.cell? ⟨gs, 1, none⟩ = some (.int .i64 s.1.2) := bs2.cell 1
        have t2 : wq.cell? ⟨gs, 2, none⟩ = some (.int .i64 s.2.1) := bs2.cell 2
        have t3 : wq.cell? ⟨gs, 3, none⟩ = some (.int .i64 s.2.2) := bs2.cell 3
        have hszq := hbox2.lt
        cases kb
        · have HT3 : Hid ((ss.take (k + 1)).filter (fun s => keepB o lx ly hx hy s.1 s.2) = qs) := by
            show _ = _
            rw [HT.out, List.filter_cons_of_neg (by rw [HK.out]; simp), List.filter_nil, List.append_nil]
          go_wp2_with fail
          go_roundw
          case rel => exact ⟨k + 1, _, _, qs, by omega, by go_num, rfl, HT3.out.symm, hown2, hbox2, hbel2⟩
          case measure => simp [intOf]; omega
        · have HT3 : Hid ((ss.take (k + 1)).filter (fun s => keepB o lx ly hx hy s.1 s.2) = qs ++ [s]) := by
            show _ = _
            rw [HT.out, List.filter_cons_of_pos (by rw [HK.out]), List.filter_nil]
          go_wp2_with (at_builtin; refine wpList_push rfl _ _ 59 rfl 63 i0 _ 4 32 Try.underlying59 hi hz0 hz1 hz2 rfl (by decide) (by decide) w _ (w.heap.size + 1) _ qs.length _ rfl hown2 w.heap.size hbel2 (by omega) (by omega) (by omega) [_, _, _, _] _ _ (by simp) 1 rfl rfl (by simp [Value.oneCell']) ?_)
          intro g5 cap5 w5 hown5 hbel5 hsz5 hgr5 _ _
          have hbox5 := (hbox2.alloc (.cells #[.int .i64 s.1.1, .int .i64 s.1.2, .int .i64 s.2.1, .int .i64 s.2.2] 63)).grown hgr5 fun e => by have := (hown2.lt _ e.symm).1; omega
          have hown5' : w5.ownsRow (w.heap.size + 1) 63 4 (.slice (some ⟨g5, 0, none⟩) (qs.length + 1) cap5) (qs.length + 1) ((qs ++ [s]).flatMap stepE) := by rw [List.flatMap_append]; simpa [stepE] using hown5
          clear hown5 hgr5 hown2 hbox2 t0 t1 t2 t3
          go_wp2_with fail
          go_roundw
          case rel => exact ⟨k + 1, _, _, qs ++ [s], by omega, by go_num, by rw [List.length_append]; rfl, HT3.out.symm, by rw [List.length_append]; exact hown5', hbox5, hbel5⟩
          case measure => simp [intOf]; omega
    · obtain rfl : k = ss.length := by omega
      have HW : Hid (qs = ss.filter fun s => keepB o lx ly hx hy s.1 s.2) := by have h := HQ.out; rwa [List.take_length] at h
      go_wp2_with fail
      rw [← HW.out]
      go_ret
      exact ⟨_, _, rfl, own_mono hown (Nat.le_succ _), hbel⟩
end Go.Proofs.Ytafanlbfbfbeoaa

/- Whether rings go around each point within a box as often as others. -/
namespace Go.Proofs.Ytafanlbfbfbeoaa
open Go.RowKit

/-- How often all rings go around a point. -/
def sumW (X Y : Int) (xs : List (Value × List (Int × Int))) : Int := (xs.map fun x => windI X Y x.2).sum

theorem wind_bd (X Y : Int) (ps : List (Int × Int)) : -(ps.length : Int) ≤ windI X Y ps ∧ windI X Y ps ≤ ps.length := by
  cases ps with
  | nil => simp [windI, chainI]
  | cons p l =>
    have h := chain_bd X Y (rotL (p :: l)) (p :: l)[0]
    rw [rot_winds X Y (ps := p :: l) (by simp), rot_len] at h
    exact h

theorem sumW_bd (X Y : Int) : ∀ xs : List (Value × List (Int × Int)), (∀ x ∈ xs, x.2.length ≤ 100000) → -(xs.length * 100000 : Int) ≤ sumW X Y xs ∧ sumW X Y xs ≤ xs.length * 100000
  | [], _ => by simp [sumW]
  | x :: xs, h => by
    have h1 := wind_bd X Y x.2
    have h2 := sumW_bd X Y xs fun y hy => h y (by simp [hy])
    have h3 := h x (by simp)
    have h4 : sumW X Y (x :: xs) = windI X Y x.2 + sumW X Y xs := by simp [sumW]
    rw [h4, List.length_cons]
    omega

theorem sumW_snoc (X Y : Int) {xs : List (Value × List (Int × Int))} {k : Nat} (h : k < xs.length) : sumW X Y (xs.take (k + 1)) = sumW X Y (xs.take k) + windI X Y xs[k].2 := by
  unfold sumW
  rw [List.take_succ_eq_append_getElem h, List.map_append, List.sum_append]; simp

set_option maxRecDepth 100000 in
set_option maxHeartbeats 1000000 in
theorem spotWinds_any (X Y : Int) (hX : -128 ≤ X ∧ X ≤ 128) (hY : -128 ≤ Y ∧ Y ≤ 128) (ao : Option Addr) (cap : Nat) (ps : List (Int × Int)) (B : Nat) (w : World) (hl : ps.length ≤ 100000) (hn : ∀ p ∈ ps, Near p) (h : w.ownsRow B 25 2 (.slice ao ps.length cap) ps.length (ps.flatMap spotE)) :
    Calls Try.prog 35 #[.slice ao ps.length cap, .agg #[.int .i64 X, .int .i64 Y]] w
      fun e w' => e = .returned (.int .i64 (windI X Y ps)) ∧ Below w.heap.size w w' := by
  have h1 : wrap64 (wrap64 (4 * X) + 2) = 4 * X + 2 := by simp only [wrap64]; omega
  have h2 : wrap64 (wrap64 (4 * Y) + 1) = 4 * Y + 1 := by simp only [wrap64]; omega
  go_enter Try.func35, Try.ntmps35
  go_wp2_with fail
  refine (winds_any X Y hX hY ao cap ps B _ hl hn (h.alloc _)).mono ?_
  rintro e w1 ⟨rfl, hb1⟩
  go_wp2_with fail
  go_ret
  exact ⟨rfl, ((Below.refl _ _).alloc (Nat.le_refl _) _).trans (hb1.mono (by simp))⟩

end Go.Proofs.Ytafanlbfbfbeoaa

/- Whether a ring has no step in a box, but goes around it. -/
namespace Go.Proofs.Ytafanlbfbfbeoaa
open Go.RowKit

def OutRet (lx ly hx hy : Int) (ps : List (Int × Int)) (w : World) (e : Ending) (w' : World) : Prop :=
  ∃ b : Bool, e = .returned (.bool b) ∧ (b = false → ((stepsL ps).filter fun s => keepB false lx ly hx hy s.1 s.2) = [] → windI lx ly ps = 0) ∧ Below w.heap.size w w'

set_option maxRecDepth 100000 in
set_option maxHeartbeats 2000000 in
theorem outside_any (lx ly hx hy : Int) (h1 : -128 ≤ lx ∧ lx ≤ 128) (h2 : -128 ≤ ly ∧ ly ≤ 128) (ao : Option Addr) (cap : Nat) (ps : List (Int × Int)) (B : Nat) (w : World) (hlen : ps.length ≤ 3000) (hn : ∀ p ∈ ps, Near p) (ho : OctiL (ps.headD (0, 0)) ps)
    (h : w.ownsRow B 25 2 (.slice ao ps.length cap) ps.length (ps.flatMap spotE)) :
    Calls Try.prog 21 #[.agg #[.int .i64 lx, .int .i64 ly, .int .i64 hx, .int .i64 hy], .slice ao ps.length cap] w (OutRet lx ly hx hy ps w) := by
  have hst := fun W hr => steps_any ao cap ps B W hlen hn (fun i hi => octi_get ho i hi) hr
  have hsl : (stepsL ps).length ≤ 100000000 := by have := stepsL_len hn; omega
  have hwt := fun a c B W hr => within_any false lx ly hx hy a c (stepsL ps) B W hsl hr
  have hwi := fun W hr => spotWinds_any lx ly h1 h2 ao cap ps B W (by omega) hn hr
  obtain ⟨fs, hfs⟩ : ∃ fs, fs = (stepsL ps).filter fun s => keepB false lx ly hx hy s.1 s.2 := ⟨_, rfl⟩
  obtain ⟨wi, hwi2⟩ : ∃ wi, wi = windI lx ly ps := ⟨_, rfl⟩
  rw [← hfs] at hwt
  rw [← hwi2] at hwi
  have HO : Hid (fs = ((stepsL ps).filter fun s => keepB false lx ly hx hy s.1 s.2) ∧ wi = windI lx ly ps) := ⟨hfs, hwi2⟩
  clear hfs hwi2 hn ho hsl
  go_enter Try.func21, Try.ntmps21
  go_wp2_with fail
  have hbx := Blk.new w #[.int .i64 lx, .int .i64 ly, .int .i64 hx, .int .i64 hy] 27
  refine (hst _ (h.alloc _)).mono ?_
  rintro e w1 ⟨ao1, cap1, rfl, -, ho1, hb1⟩
  have hB1 : Below w.heap.size w w1 := ((Below.refl _ _).alloc (Nat.le_refl _) _).trans (hb1.mono (by simp))
  have hbx1 := hbx.below hb1 hbx.lt
  have hor := own_below (h.alloc (.cells #[.int .i64 lx, .int .i64 ly, .int .i64 hx, .int .i64 hy] 27)) hb1 (Nat.le_refl _)
  have e0 : w1.cell? ⟨w.heap.size, 0, none⟩ = some (.int .i64 lx) := hbx1.cell 0
  have e1 : w1.cell? ⟨w.heap.size, 1, none⟩ = some (.int .i64 ly) := hbx1.cell 1
  have e2 : w1.cell? ⟨w.heap.size, 2, none⟩ = some (.int .i64 hx) := hbx1.cell 2
  have e3 : w1.cell? ⟨w.heap.size, 3, none⟩ = some (.int .i64 hy) := hbx1.cell 3
  clear hst hbx h hb1
  go_wp2_with fail
  refine (hwt _ _ _ _ ho1).mono ?_
  rintro e w2 ⟨ao2, cap2, rfl, ho2, hb2⟩
  have hB2 := hB1.trans (hb2.mono hB1.size)
  have hbx2 := hbx1.below hb2 hbx1.lt
  have hor2 := own_below hor hb2 (Nat.le_refl _)
  clear hwt ho1 ho2 hb2 hor hbx1 hB1 e0 e1 e2 e3
  have e0 : w2.cell? ⟨w.heap.size, 0, none⟩ = some (.int .i64 lx) := hbx2.cell 0
  have e1 : w2.cell? ⟨w.heap.size, 1, none⟩ = some (.int .i64 ly) := hbx2.cell 1
  have e2 : w2.cell? ⟨w.heap.size, 2, none⟩ = some (.int .i64 hx) := hbx2.cell 2
  have e3 : w2.cell? ⟨w.heap.size, 3, none⟩ = some (.int .i64 hy) := hbx2.cell 3
  by_cases hz : fs = []
  · have HO2 : Hid (((stepsL ps).filter fun s => keepB false lx ly hx hy s.1 s.2) = [] ∧ wi = windI lx ly ps) := ⟨by rw [← HO.out.1]; exact hz, HO.out.2⟩
    clear HO
    subst hz
    go_wp2_with fail
    refine (hwi _ hor2).mono ?_
    rintro e w3 ⟨rfl, hb3⟩
    have hB3 := hB2.trans (hb3.mono hB2.size)
    clear hwi hor2 hb3 hbx2 hB2 e0 e1 e2 e3
    go_wp2_with fail
    go_ret
    exact ⟨wi != 0, rfl, fun h _ => HO2.out.2.symm.trans (by simpa using h), hB3⟩
  · have hl : ((fs.length : Int) == 0) = false := by
      have : 0 < fs.length := List.length_pos_iff.2 hz
      simp; omega
    have HZ : Hid (¬ fs = []) := hz
    clear hz
    go_wp2_with fail
    go_ret
    exact ⟨false, rfl, fun _ h => absurd (HO.out.1.trans h) HZ.out, hB2⟩
end Go.Proofs.Ytafanlbfbfbeoaa
