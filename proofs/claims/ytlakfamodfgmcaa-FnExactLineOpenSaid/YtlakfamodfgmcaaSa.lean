/- Whether steps are the same, and those of steps that are in a box. -/
import Derived.Test.YtlakfamodfgmcaaSt
import Derived.Deep.QuietTactic
import Derived.BigQuiet
namespace Go.Proofs.Ytlakfamodfgmcaa
open Go.RowKit

set_option maxRecDepth 100000 in
set_option maxHeartbeats 1000000 in
theorem same_any (ao bo : Option Addr) (cap capb : Nat) (ss : List ((Int × Int) × (Int × Int))) (B B' : Nat) (w : World) (hl : ss.length ≤ 100000000) (ha : w.ownsRow B 96 4 (.slice ao ss.length cap) ss.length (ss.flatMap stepE)) (hb : w.ownsRow B' 96 4 (.slice bo ss.length capb) ss.length (ss.flatMap stepE)) :
    Calls Try.prog 32 #[.slice ao ss.length cap, .slice bo ss.length capb] w fun e w' => e = .returned (.bool true) ∧ Below w.heap.size w w' := by
  obtain ⟨ga, hga, hca⟩ := steps_read ha
  obtain ⟨gb, hgb, hcb⟩ := steps_read hb
  clear ha hb
  go_enter Try.func32, Try.ntmps32
  go_wp2_with fail
  go_loopw [13] (fun i wr => ∃ (k : Nat), k ≤ ss.length ∧ i = .int .i64 k ∧ Below w.heap.size w wr) (fun i _ => ss.length - (intOf i).toNat)
  case atStart => exact ⟨0, Nat.zero_le _, rfl, Below.refl _ _⟩
  case round =>
    obtain ⟨k, hk, rfl, hbel⟩ := hrel
    by_cases hlt : k < ss.length
    · obtain ⟨rfl, hgs, _⟩ := hga (by omega)
      obtain ⟨rfl, hgt, _⟩ := hgb (by omega)
      obtain ⟨c0, c1, c2, c3⟩ := hca k hlt
      obtain ⟨e0, e1, e2, e3⟩ := hcb k hlt
      have c0 := (hbel.cell (by exact hgs)).trans c0
      have c1 := (hbel.cell (by exact hgs)).trans c1
      have c2 := (hbel.cell (by exact hgs)).trans c2
      have c3 := (hbel.cell (by exact hgs)).trans c3
      have e0 := (hbel.cell (by exact hgt)).trans e0
      have e1 := (hbel.cell (by exact hgt)).trans e1
      have e2 := (hbel.cell (by exact hgt)).trans e2
      have e3 := (hbel.cell (by exact hgt)).trans e3
      clear hca hcb hga hgb
      go_wp2_with fail
      go_quiet (fail)
      go_wp2
      go_roundw
      case rel => exact ⟨k + 1, by omega, by go_num, below_drewN hbel _⟩
      case measure => simp [intOf]; omega
    · obtain rfl : k = ss.length := by omega
      go_wp2
      go_ret
      exact ⟨rfl, hbel⟩

set_option maxRecDepth 100000 in
set_option maxHeartbeats 1000000 in
theorem along_any (lx ly hx hy : Int) (s : (Int × Int) × (Int × Int)) (w : World) :
    Calls Try.prog 50 #[.agg #[.int .i64 lx, .int .i64 ly, .int .i64 hx, .int .i64 hy], .agg #[.int .i64 s.1.1, .int .i64 s.1.2, .int .i64 s.2.1, .int .i64 s.2.2]] w
      fun e w' => e = .returned (.bool (alongB lx ly hx hy s.1 s.2)) ∧ Below w.heap.size w w' := by
  go_enter Try.func50, Try.ntmps50
  go_wp2
  all_goals
    go_ret
    refine ⟨ret_bool ?_, ((Below.refl _ _).alloc (Nat.le_refl _) _).alloc (by simp) _⟩
    unfold alongB
    rw [Bool.eq_iff_iff]
    simp only [Bool.or_eq_true, Bool.and_eq_true, decide_eq_true_iff, beq_iff_eq, true_iff, false_iff, Bool.false_eq_true]
    omega

set_option maxRecDepth 100000 in
set_option maxHeartbeats 2000000 in
theorem within_any (o : Bool) (lx ly hx hy : Int) (ao : Option Addr) (cap : Nat) (ss : List ((Int × Int) × (Int × Int))) (B : Nat) (w : World) (hl : ss.length ≤ 100000000) (h : w.ownsRow B 96 4 (.slice ao ss.length cap) ss.length (ss.flatMap stepE)) :
    Calls Try.prog 33 #[.agg #[.int .i64 lx, .int .i64 ly, .int .i64 hx, .int .i64 hy], .slice ao ss.length cap, .bool o] w
      fun e w' => ∃ ao' cap', e = .returned (.slice ao' (ss.filter fun s => keepB o lx ly hx hy s.1 s.2).length cap') ∧
        w'.ownsRow w.heap.size 96 4 (.slice ao' (ss.filter fun s => keepB o lx ly hx hy s.1 s.2).length cap') (ss.filter fun s => keepB o lx ly hx hy s.1 s.2).length ((ss.filter fun s => keepB o lx ly hx hy s.1 s.2).flatMap stepE) ∧ Below w.heap.size w w' := by
  obtain ⟨i0, hi, hz0, hz1, hz2⟩ := info_parts Try.info96
  obtain ⟨g, hg, hc⟩ := steps_read h
  clear h
  go_enter Try.func33, Try.ntmps33
  go_wp2_with fail
  go_loopw [7, 13] (fun v i wr => ∃ (k : Nat) (ao' : Option Addr) (cap' : Nat) (qs : List ((Int × Int) × (Int × Int))), k ≤ ss.length ∧ i = .int .i64 k ∧ v = .slice ao' qs.length cap' ∧ Hid (qs = (ss.take k).filter fun s => keepB o lx ly hx hy s.1 s.2) ∧
      wr.ownsRow (w.heap.size + 1) 96 4 (.slice ao' qs.length cap') qs.length (qs.flatMap stepE) ∧ Blk wr w.heap.size #[.int .i64 lx, .int .i64 ly, .int .i64 hx, .int .i64 hy] 27 ∧ Below w.heap.size w wr)
    (fun _ i _ => ss.length - (intOf i).toNat)
  case atStart =>
    have ho0 := own_new (w.alloc (.cells #[.int .i64 lx, .int .i64 ly, .int .i64 hx, .int .i64 hy] 27)) (w.heap.size + 1) (by simp) 96 4 0 [] rfl (by omega)
    rw [World.size_alloc] at ho0
    exact ⟨0, _, _, [], Nat.zero_le _, rfl, rfl, rfl, ho0, (Blk.new _ _ _).alloc _, ((Below.refl _ _).alloc (Nat.le_refl _) _).alloc (by simp) _⟩
  case round =>
    obtain ⟨k, ao', cap', qs, hk, rfl, rfl, HQ, hown, hbox, hbel⟩ := hrel
    by_cases hlt : k < ss.length
    · obtain ⟨rfl, hgs, _⟩ := hg (by omega)
      obtain ⟨c0, c1, c2, c3⟩ := hc k hlt
      have hql : qs.length ≤ 100000000 := by rw [HQ.out]; exact Nat.le_trans (List.length_filter_le _ _) (by rw [List.length_take]; omega)
      have HT : Hid ((ss.take (k + 1)).filter (fun s => keepB o lx ly hx hy s.1 s.2) = qs ++ [ss[k]].filter (fun s => keepB o lx ly hx hy s.1 s.2)) := by
        rw [List.take_succ_eq_append_getElem hlt, List.filter_append, HQ.out]; exact rfl
      obtain ⟨s, hs⟩ : ∃ s, s = ss[k] := ⟨_, rfl⟩
      rw [← hs] at c0 c1 c2 c3 HT
      have c0 := (hbel.cell (by exact hgs)).trans c0
      have c1 := (hbel.cell (by exact hgs)).trans c1
      have c2 := (hbel.cell (by exact hgs)).trans c2
      have c3 := (hbel.cell (by exact hgs)).trans c3
      have e0 : wr.cell? ⟨w.heap.size, 0, none⟩ = some (.int .i64 lx) := hbox.cell 0
      have e1 : wr.cell? ⟨w.heap.size, 1, none⟩ = some (.int .i64 ly) := hbox.cell 1
      have e2 : wr.cell? ⟨w.heap.size, 2, none⟩ = some (.int .i64 hx) := hbox.cell 2
      have e3 : wr.cell? ⟨w.heap.size, 3, none⟩ = some (.int .i64 hy) := hbox.cell 3
      have hbl := hbox.lt
      have hsz := hbel.size
      clear hs hc hg HQ
      have hA := has_any lx ly hx hy s.1.1 s.1.2
      have hC := has_any lx ly hx hy s.2.1 s.2.2
      have hL := along_any lx ly hx hy s
      obtain ⟨ba, hba⟩ : ∃ ba, ba = hasB lx ly hx hy s.1.1 s.1.2 := ⟨_, rfl⟩
      obtain ⟨bc, hbc⟩ : ∃ bc, bc = hasB lx ly hx hy s.2.1 s.2.2 := ⟨_, rfl⟩
      obtain ⟨bl, hbl2⟩ : ∃ bl, bl = alongB lx ly hx hy s.1 s.2 := ⟨_, rfl⟩
      have HK : Hid (keepB o lx ly hx hy s.1 s.2 = (ba && bc && !(o && bl))) := by show _ = _; rw [hba, hbc, hbl2]; rfl
      rw [← hba] at hA
      rw [← hbc] at hC
      rw [← hbl2] at hL
      clear hba hbc hbl2
      obtain ⟨gs, hgs0⟩ : ∃ gs, gs = wr.heap.size := ⟨_, rfl⟩
      have bs := Blk.new wr #[.int .i64 s.1.1, .int .i64 s.1.2, .int .i64 s.2.1, .int .i64 s.2.2] 96
      have hown1 := hown.alloc (.cells #[.int .i64 s.1.1, .int .i64 s.1.2, .int .i64 s.2.1, .int .i64 s.2.2] 96)
      have hbox1 := hbox.alloc (.cells #[.int .i64 s.1.1, .int .i64 s.1.2, .int .i64 s.2.1, .int .i64 s.2.2] 96)
      have hbel1 := hbel.alloc hsz (.cells #[.int .i64 s.1.1, .int .i64 s.1.2, .int .i64 s.2.1, .int .i64 s.2.2] 96)
      rw [← hgs0] at bs
      have hgo : ∀ g, (Value.slice ao' qs.length cap').ownBlock = some g → g ≠ gs := fun g hg e => by have := (hown.lt g hg).2; omega
      go_upto_region 5 with fail
      obtain ⟨w1, hw1⟩ : ∃ w1, w1 = wr.alloc (.cells #[.int .i64 s.1.1, .int .i64 s.1.2, .int .i64 s.2.1, .int .i64 s.2.2] 96) := ⟨_, rfl⟩
      rw [← hw1] at bs hown1 hbox1 hbel1 ⊢
      rw [← hgs0]
      clear hw1 hgs0 c0 c1 c2 c3 e0 e1 e2 e3 hbl hsz hown hbox hbel
      go_cut [35] (fun v wd => v = .bool (ba && bc && !(o && bl)) ∧ Below w1.heap.size w1 wd)
      case first =>
        have f0 : w1.cell? ⟨w.heap.size, 0, none⟩ = some (.int .i64 lx) := hbox1.cell 0
        have f1 : w1.cell? ⟨w.heap.size, 1, none⟩ = some (.int .i64 ly) := hbox1.cell 1
        have f2 : w1.cell? ⟨w.heap.size, 2, none⟩ = some (.int .i64 hx) := hbox1.cell 2
        have f3 : w1.cell? ⟨w.heap.size, 3, none⟩ = some (.int .i64 hy) := hbox1.cell 3
        have t0 : w1.cell? ⟨gs, 0, none⟩ = some (.int .i64 s.1.1) := bs.cell 0
        have t1 : w1.cell? ⟨gs, 1, none⟩ = some (.int .i64 s.1.2) := bs.cell 1
        have t2 : w1.cell? ⟨gs, 2, none⟩ = some (.int .i64 s.2.1) := bs.cell 2
        have t3 : w1.cell? ⟨gs, 3, none⟩ = some (.int .i64 s.2.2) := bs.cell 3
        go_wp2_with fail
        refine (hA _).mono ?_
        rintro e w2 ⟨rfl, hb2⟩
        have hbox2 := hbox1.below hb2 hbox1.lt
        have bs2 := bs.below hb2 bs.lt
        clear f0 f1 f2 f3 t0 t1 t2 t3
        cases ba
        · go_wp2_with fail
          go_meet
          exact ⟨rfl, hb2⟩
        · skip
          have f0 : w2.cell? ⟨w.heap.size, 0, none⟩ = some (.int .i64 lx) := hbox2.cell 0
          have f1 : w2.cell? ⟨w.heap.size, 1, none⟩ = some (.int .i64 ly) := hbox2.cell 1
          have f2 : w2.cell? ⟨w.heap.size, 2, none⟩ = some (.int .i64 hx) := hbox2.cell 2
          have f3 : w2.cell? ⟨w.heap.size, 3, none⟩ = some (.int .i64 hy) := hbox2.cell 3
          have t0 : w2.cell? ⟨gs, 0, none⟩ = some (.int .i64 s.1.1) := bs2.cell 0
          have t1 : w2.cell? ⟨gs, 1, none⟩ = some (.int .i64 s.1.2) := bs2.cell 1
          have t2 : w2.cell? ⟨gs, 2, none⟩ = some (.int .i64 s.2.1) := bs2.cell 2
          have t3 : w2.cell? ⟨gs, 3, none⟩ = some (.int .i64 s.2.2) := bs2.cell 3
          go_wp2_with fail
          refine (hC _).mono ?_
          rintro e w3 ⟨rfl, hb3⟩
          have hbox3 := hbox2.below hb3 hbox2.lt
          have bs3 := bs2.below hb3 bs2.lt
          have hb13 := hb2.trans (hb3.mono hb2.size)
          clear f0 f1 f2 f3 t0 t1 t2 t3
          cases bc
          · go_wp2_with fail
            go_meet
            exact ⟨rfl, hb13⟩
          · skip
            have f0 : w3.cell? ⟨w.heap.size, 0, none⟩ = some (.int .i64 lx) := hbox3.cell 0
            have f1 : w3.cell? ⟨w.heap.size, 1, none⟩ = some (.int .i64 ly) := hbox3.cell 1
            have f2 : w3.cell? ⟨w.heap.size, 2, none⟩ = some (.int .i64 hx) := hbox3.cell 2
            have f3 : w3.cell? ⟨w.heap.size, 3, none⟩ = some (.int .i64 hy) := hbox3.cell 3
            have t0 : w3.cell? ⟨gs, 0, none⟩ = some (.int .i64 s.1.1) := bs3.cell 0
            have t1 : w3.cell? ⟨gs, 1, none⟩ = some (.int .i64 s.1.2) := bs3.cell 1
            have t2 : w3.cell? ⟨gs, 2, none⟩ = some (.int .i64 s.2.1) := bs3.cell 2
            have t3 : w3.cell? ⟨gs, 3, none⟩ = some (.int .i64 s.2.2) := bs3.cell 3
            cases o
            · go_wp2_with fail
              go_meet
              exact ⟨rfl, hb13⟩
            · go_wp2_with fail
              refine (hL _).mono ?_
              rintro e w4 ⟨rfl, hb4⟩
              clear f0 f1 f2 f3 t0 t1 t2 t3
              cases bl
              · go_wp2_with fail
                go_meet
                exact ⟨rfl, hb13.trans (hb4.mono hb13.size)⟩
              · go_wp2_with fail
                go_meet
                exact ⟨rfl, hb13.trans (hb4.mono hb13.size)⟩
      case rest =>
        obtain ⟨rfl, hb⟩ := hcut
        have bs2 := bs.below hb bs.lt
        have hbox2 := hbox1.below hb hbox1.lt
        have hown2 := own_below hown1 hb (Nat.le_refl _)
        have hbel2 := hbel1.trans (hb.mono hbel1.size)
        obtain ⟨kb, hkb⟩ : ∃ kb, kb = (ba && bc && !(o && bl)) := ⟨_, rfl⟩
        rw [← hkb]
        rw [← hkb] at HK
        clear hkb bs hbox1 hown1 hbel1 hb hA hC hL
        obtain ⟨wq, rfl⟩ : ∃ wq, wq = wc := ⟨_, rfl⟩
        have t0 : wq.cell? ⟨gs, 0, none⟩ = some (.int .i64 s.1.1) := bs2.cell 0
        have t1 : wq.cell? ⟨gs, 1, none⟩ = some (.int .i64 s.1.2) := bs2.cell 1
        have t2 : wq.cell? ⟨gs, 2, none⟩ = some (.int .i64 s.2.1) := bs2.cell 2
        have t3 : wq.cell? ⟨gs, 3, none⟩ = some (.int .i64 s.2.2) := bs2.cell 3
        have hszq := hbox2.lt
        cases kb
        · have HT3 : Hid ((ss.take (k + 1)).filter (fun s => keepB o lx ly hx hy s.1 s.2) = qs) := by
            show _ = _
            rw [HT.out, List.filter_cons_of_neg (by rw [HK.out]; simp), List.filter_nil, List.append_nil]
          go_wp2_with fail
          go_roundw
          case rel => exact ⟨k + 1, _, _, qs, by omega, by go_num, rfl, HT3.out.symm, hown2, hbox2, hbel2⟩
          case measure => simp [intOf]; omega
        · have HT3 : Hid ((ss.take (k + 1)).filter (fun s => keepB o lx ly hx hy s.1 s.2) = qs ++ [s]) := by
            show _ = _
            rw [HT.out, List.filter_cons_of_pos (by rw [HK.out]), List.filter_nil]
          go_wp2_with (at_builtin; refine wpList_push rfl _ _ 58 rfl 96 i0 _ 4 32 Try.underlying58 hi hz0 hz1 hz2 rfl (by decide) (by decide) w _ (w.heap.size + 1) _ qs.length _ rfl hown2 w.heap.size hbel2 (by omega) (by omega) (by omega) [_, _, _, _] _ _ (by simp) 1 rfl rfl (by simp [Value.oneCell']) ?_)
          intro g5 cap5 w5 hown5 hbel5 hsz5 hgr5 _ _
          have hbox5 := (hbox2.alloc (.cells #[.int .i64 s.1.1, .int .i64 s.1.2, .int .i64 s.2.1, .int .i64 s.2.2] 96)).grown hgr5 fun e => by have := (hown2.lt _ e.symm).1; omega
          have hown5' : w5.ownsRow (w.heap.size + 1) 96 4 (.slice (some ⟨g5, 0, none⟩) (qs.length + 1) cap5) (qs.length + 1) ((qs ++ [s]).flatMap stepE) := by rw [List.flatMap_append]; simpa [stepE] using hown5
          clear hown5 hgr5 hown2 hbox2 t0 t1 t2 t3
          go_wp2_with fail
          go_roundw
          case rel => exact ⟨k + 1, _, _, qs ++ [s], by omega, by go_num, by rw [List.length_append]; rfl, HT3.out.symm, by rw [List.length_append]; exact hown5', hbox5, hbel5⟩
          case measure => simp [intOf]; omega
    · obtain rfl : k = ss.length := by omega
      have HW : Hid (qs = ss.filter fun s => keepB o lx ly hx hy s.1 s.2) := by have h := HQ.out; rwa [List.take_length] at h
      go_wp2_with fail
      rw [← HW.out]
      go_ret
      exact ⟨_, _, rfl, own_mono hown (Nat.le_succ _), hbel⟩
end Go.Proofs.Ytlakfamodfgmcaa
