/- The walk of FnExactLineOpen. -/
import Derived.Test.YtlakfamodfgmcaaWayB
import Derived.Test.YtlakfamodfgmcaaLm
import Derived.Test.YtlakfamodfgmcaaLo
import Derived.Test.YtlakfamodfgmcaaAl
import Derived.Test.YtlakfamodfgmcaaSa
import Derived.Test.YtlakfamodfgmcaaMp
import Derived.Test.YtlakfamodfgmcaaRp
import Derived.Deep.QuietTactic
import Derived.BigQuiet
namespace Go.Proofs.Ytlakfamodfgmcaa
open Go.RowKit

theorem below_step {wr W wA : World} (h : Below wr.heap.size wr W) (hA : Below W.heap.size W wA) : Below wr.heap.size wr wA := h.trans (hA.mono h.size)

set_option maxRecDepth 100000 in
set_option maxHeartbeats 2000000 in
theorem fnExactLineOpen_walk (a0 a1 a2 a3 a4 a5 : Int) (a6 : Option Addr) (len6 cap6 : Nat) (z6 : List Int) (w : World) (h0 : -128 ≤ a0) (h0' : a0 ≤ 127) (h1 : -128 ≤ a1) (h1' : a1 ≤ 127) (h2 : -128 ≤ a2) (h2' : a2 ≤ 127) (h3 : -128 ≤ a3) (h3' : a3 ≤ 127)
    (h4 : -128 ≤ a4) (h4' : a4 ≤ 127) (h5 : -128 ≤ a5) (h5' : a5 ≤ 127) (w6 : IsRow .u8 w a6 len6 cap6 z6) :
    Calls Try.prog 12 #[.int .i8 a0, .int .i8 a1, .int .i8 a2, .int .i8 a3, .int .i8 a4, .int .i8 a5, .slice a6 len6 cap6] w fun e w' => e = .returned (.bool true) ∧ Below w.heap.size w w' := by
  by_cases hbig : 2147483647 < (len6 : Int)
  · clear w6
    go_enter Try.func12, Try.ntmps12
    go_wp2
    go_ret
    exact ⟨rfl, Below.refl _ _⟩
  · have hbig' : (len6 : Int) ≤ 2147483647 := by omega
    clear hbig
    go_enter Try.func12, Try.ntmps12
    go_wp2_with fail
    refine (box_any a0 a1 a2 a3 h0 h0' h1 h1' h2 h2' h3 h3' _).mono ?_
    rintro e w1 ⟨lx, ly, hx, hy, rfl, hbox, hb1⟩
    have hnear := hbox.near h0 h0' h1 h1' h2 h2' h3 h3'
    clear hbox h0 h0' h1 h1' h2 h2' h3 h3'
    go_wp2_with fail
    refine (way_walk a4 a5 a6 len6 cap6 z6 h4 h4' h5 h5' _ (w6.below hb1)).mono ?_
    rintro e w2 ⟨ao2, cap2, ps, rfl, hpw, hps0, hps1, hps, ho2, hb2⟩
    have hoct : OctiL (ps.headD (0, 0)) ps := by rw [hpw, wayL_head]; exact way_octi _ _ _ (octi_self _)
    clear hpw
    have hB2 := hb1.trans (hb2.mono hb1.size)
    clear w6 h4 h4' h5 h5' hb1 hb2
    have hpl : ps.length ≤ 1000 := by omega
    have smb : (Sm lx ∧ Sm ly) ∧ (Sm hx ∧ Sm hy) := by unfold Sm; omega
    have hoc : ∀ i (hi : i + 1 < ps.length), Octi ps[i] ps[i + 1] := fun i hi => octi_get hoct i hi
    have hstl : (stepsL ps).length ≤ 100000000 := by have := stepsL_len hps; omega
    obtain ⟨hsp1, hsp2⟩ := line_spec (o := true) (lx := lx) (ly := ly) (hx := hx) (hy := hy) (by omega) (by omega) hoct
    have himpl := fun ao cap B W hr => implLineO_any lx ly hx hy (by unfold Near; omega) (by unfold Near; omega) (by omega) (by omega) ao cap ps B W hpl hps hoc hr
    have hsteps := fun ao cap B W hr => steps_any ao cap ps B W (by omega) hps hoc hr
    have hwith := fun ao cap B W hr => within_any true lx ly hx hy ao cap (stepsL ps) B W hstl hr
    obtain ⟨T, hT⟩ : ∃ T, T = (stepsL ps).filter fun s => keepB true lx ly hx hy s.1 s.2 := ⟨_, rfl⟩
    have hTl : T.length ≤ 100000000 := by rw [hT]; exact Nat.le_trans (List.length_filter_le _ _) hstl
    have hsp3 : (lineL true lx ly hx hy ps).flatMap stepsL = T := by rw [hT]; exact hsp1
    rw [← hT] at hwith
    generalize lineL true lx ly hx hy ps = R at *
    generalize stepsL ps = st at *
    clear hT hsp1
    have hallT : ∀ ys : List (Value × List (Int × Int)), ys.map Prod.snd = R → allL ys = T := fun ys hy => by
      rw [← hsp3, ← hy]; unfold allL; rw [List.flatMap_map]
    have hin : ∀ ys : List (Value × List (Int × Int)), ys.map Prod.snd = R → ∀ x ∈ ys, (∀ p ∈ x.2, hasB lx ly hx hy p.1 p.2 = true) ∧ ∀ i (hi : i + 1 < x.2.length), Octi x.2[i] x.2[i + 1] := fun ys hy x hx => by
      have hr := hsp2 x.2 (by rw [← hy]; exact List.mem_map_of_mem hx)
      exact ⟨hr.1, fun i hi => octi_get hr.2 i hi⟩
    have hallc : ∀ (v : Value) (ys : List (Value × List (Int × Int))) (B : Nat) (W : World), ys.map Prod.snd = R → (∀ x ∈ ys, x.2.length ≤ 2000) → ys.length ≤ 1001 → RowsAt W B 34 38 ptE v ys →
        Calls Try.prog 31 #[.agg #[.int .i64 lx, .int .i64 ly, .int .i64 hx, .int .i64 hy], v] W fun e w' => ∃ ao' cap', e = .returned (.tuple #[.slice ao' T.length cap', .bool true]) ∧ w'.ownsRow W.heap.size 96 4 (.slice ao' T.length cap') T.length (T.flatMap stepE) ∧ Below W.heap.size W w' := fun v ys B W hyy hll hnn hr => by
      have hc := all_any lx ly hx hy (by omega) (by omega) v ys B W (fun x hxx => (hin ys hyy x hxx).1) (fun x hxx => (hin ys hyy x hxx).2) hll (by omega) (by rw [hallT ys hyy]; exact hTl) hr
      rw [hallT ys hyy] at hc
      exact hc
    clear hsp2 hsp3 hallT hin hoc hoct
    have hps2 : ps.length ≤ 100000000 := by omega
    have bx0 := Blk.new w2 #[.int .i64 lx, .int .i64 ly, .int .i64 hx, .int .i64 hy] 27
    have hB3 : Below w.heap.size w (w2.alloc (.cells #[.int .i64 lx, .int .i64 ly, .int .i64 hx, .int .i64 hy] 27)) := below_alloc hB2 _ (Nat.le_refl _)
    have ho3 := ho2.alloc (.cells #[.int .i64 lx, .int .i64 ly, .int .i64 hx, .int .i64 hy] 27)
    obtain ⟨bx, hbx⟩ : ∃ bx, bx = w2.heap.size := ⟨_, rfl⟩
    rw [← hbx] at bx0
    go_wp2_with fail
    rw [← hbx]
    refine (hsteps _ _ _ _ ho3).mono ?_
    rintro e w4 ⟨ao4, cap4, rfl, _, hos, hb4⟩
    have hbx4 := bx0.below hb4 bx0.lt
    have hop4 := own_below ho3 hb4 (Nat.le_refl _)
    have hB4 := hB3.trans (hb4.mono hB3.size)
    clear hb4 bx0 ho3 hB3 ho2 hbx hsteps hB2
    have e0 : w4.cell? ⟨bx, 0, none⟩ = some (.int .i64 lx) := hbx4.cell 0
    have e1 : w4.cell? ⟨bx, 1, none⟩ = some (.int .i64 ly) := hbx4.cell 1
    have e2 : w4.cell? ⟨bx, 2, none⟩ = some (.int .i64 hx) := hbx4.cell 2
    have e3 : w4.cell? ⟨bx, 3, none⟩ = some (.int .i64 hy) := hbx4.cell 3
    go_upto_region 5 with fail
    go_cut [19, 20] (fun v ok wc => ok = .bool true ∧ (∃ (ao : Option Addr) (cap : Nat), v = .slice ao T.length cap ∧ wc.ownsRow 0 96 4 (.slice ao T.length cap) T.length (T.flatMap stepE)) ∧ Below w4.heap.size w4 wc)
    case first =>
      have HS : Hid (∀ W, Below w4.heap.size w4 W → (W.cell? ⟨bx, 0, none⟩ = some (.int .i64 lx) ∧ W.cell? ⟨bx, 1, none⟩ = some (.int .i64 ly) ∧ W.cell? ⟨bx, 2, none⟩ = some (.int .i64 hx) ∧ W.cell? ⟨bx, 3, none⟩ = some (.int .i64 hy))) :=
        fun W hb => ⟨cell_later hb e0, cell_later hb e1, cell_later hb e2, cell_later hb e3⟩
      go_region_held3 (fun w' => (w'.cell? ⟨bx, 0, none⟩ = some (.int .i64 lx) ∧ w'.cell? ⟨bx, 1, none⟩ = some (.int .i64 ly) ∧ w'.cell? ⟨bx, 2, none⟩ = some (.int .i64 hx) ∧ w'.cell? ⟨bx, 3, none⟩ = some (.int .i64 hy)))
        ((refine HS.out _ ?_; repeat first | assumption | exact Below.refl _ _ | refine Below.drew ?_ | refine below_alloc ?_ _ (Nat.le_refl _)))
        (first
          | (go_at_call 19; refine (of_any lx ly hx hy _).mono ?_; rintro e wA ⟨rfl, hbA⟩; have hBA : Below w4.heap.size w4 wA := below_step (by repeat first | assumption | exact Below.refl _ _ | refine Below.drew ?_ | refine below_alloc ?_ _ (Nat.le_refl _)) hbA)
          | (go_at_call 20; refine (specPoints_any _ _ ps _ _ hps2 (own_below hop4 (by repeat first | assumption | exact Below.refl _ _ | refine Below.drew ?_ | refine below_alloc ?_ _ (Nat.le_refl _)) (Nat.le_refl _))).mono ?_; rintro e wB ⟨aoB, capB, rfl, hoB, hbB⟩; have hBB : Below w4.heap.size w4 wB := below_step (by repeat first | assumption | exact Below.refl _ _ | refine Below.drew ?_ | refine below_alloc ?_ _ (Nat.le_refl _)) hbB)
          | (go_at_call 27; refine (himpl _ _ _ _ (by repeat first | exact hoB | refine World.ownsRow.drew ?_)).mono ?_; rintro e wC ⟨vC, ysC, rfl, hyC, hrC, hbC, hlC, hnC⟩; have hBC : Below w4.heap.size w4 wC := below_step (by repeat first | assumption | exact Below.refl _ _ | refine Below.drew ?_ | refine below_alloc ?_ _ (Nat.le_refl _)) hbC)
          | (go_at_call 31; refine (hallc _ ysC _ _ hyC hlC hnC (by repeat first | exact hrC | refine RowsAt.drew ?_)).mono ?_; rintro e wD ⟨aoD, capD, rfl, hoD, hbD⟩; have hBD : Below w4.heap.size w4 wD := below_step (by repeat first | assumption | exact Below.refl _ _ | refine Below.drew ?_ | refine below_alloc ?_ _ (Nat.le_refl _)) hbD))
      all_goals go_wp2_with fail
      all_goals go_meet
      all_goals exact ⟨rfl, ⟨_, _, rfl, own_mono hoD (Nat.zero_le _)⟩, hBD⟩
    case rest =>
      obtain ⟨rfl, ⟨ao9, cap9, rfl, hog⟩, hb9⟩ := hcut
      have hos9 := own_below hos hb9 (Nat.le_refl _)
      have hbx9 := hbx4.below hb9 hbx4.lt
      have hB9 : Below w.heap.size w wc := hB4.trans (hb9.mono hB4.size)
      clear hb9 hos hop4 hbx4 hB4 e0 e1 e2 e3 himpl hallc
      obtain ⟨wr, rfl⟩ : ∃ wr, wr = wc := ⟨_, rfl⟩
      have e0 : wr.cell? ⟨bx, 0, none⟩ = some (.int .i64 lx) := hbx9.cell 0
      have e1 : wr.cell? ⟨bx, 1, none⟩ = some (.int .i64 ly) := hbx9.cell 1
      have e2 : wr.cell? ⟨bx, 2, none⟩ = some (.int .i64 hx) := hbx9.cell 2
      have e3 : wr.cell? ⟨bx, 3, none⟩ = some (.int .i64 hy) := hbx9.cell 3
      have hlow : ∀ p ∈ [(lx, ly)], Sm p.1 ∧ Sm p.2 := fun p hp => by simp at hp; subst hp; exact smb.1
      have hin : [(lx, ly)].filter (fun p => hasB lx ly hx hy p.1 p.2) = [(lx, ly)] := by simp [hasB]; omega
      have HI : Hid ([(lx, ly)].filter (fun p => hasB lx ly hx hy p.1 p.2) = [(lx, ly)]) := hin
      clear hin hbx9
      go_wp2_with fail
      have HS : Hid (∀ W, Below wr.heap.size wr W → (W.cell? ⟨bx, 0, none⟩ = some (.int .i64 lx) ∧ W.cell? ⟨bx, 1, none⟩ = some (.int .i64 ly) ∧ W.cell? ⟨bx, 2, none⟩ = some (.int .i64 hx) ∧ W.cell? ⟨bx, 3, none⟩ = some (.int .i64 hy))) :=
        fun W hb => ⟨cell_later hb e0, cell_later hb e1, cell_later hb e2, cell_later hb e3⟩
      go_region_held3 (fun w' => (w'.cell? ⟨bx, 0, none⟩ = some (.int .i64 lx) ∧ w'.cell? ⟨bx, 1, none⟩ = some (.int .i64 ly) ∧ w'.cell? ⟨bx, 2, none⟩ = some (.int .i64 hx) ∧ w'.cell? ⟨bx, 3, none⟩ = some (.int .i64 hy)))
        ((refine HS.out _ ?_; repeat first | assumption | exact Below.refl _ _ | refine Below.drew ?_ | refine below_alloc ?_ _ (Nat.le_refl _)))
        (first
          | (go_at_call 33; refine (hwith _ _ _ _ (own_below hos9 (by repeat first | assumption | exact Below.refl _ _ | refine Below.drew ?_ | refine below_alloc ?_ _ (Nat.le_refl _)) (Nat.le_refl _))).mono ?_; rintro e wD ⟨aoD, capD, rfl, hoD, hbD⟩; have hBD : Below wr.heap.size wr wD := below_step (by repeat first | assumption | exact Below.refl _ _ | refine Below.drew ?_ | refine below_alloc ?_ _ (Nat.le_refl _)) hbD)
          | (go_at_call 32; refine (same_any _ _ _ _ T 0 _ _ hTl (own_below hog (by repeat first | assumption | exact Below.refl _ _ | refine Below.drew ?_ | refine below_alloc ?_ _ (Nat.le_refl _)) (Nat.le_refl _)) (by repeat first | exact hoD | refine World.ownsRow.drew ?_)).mono ?_; rintro e wE ⟨rfl, hbE⟩; have hBE : Below wr.heap.size wr wE := below_step (by repeat first | assumption | exact Below.refl _ _ | refine Below.drew ?_ | refine below_alloc ?_ _ (Nat.le_refl _)) hbE)
          | (go_at_call 19; refine (of_any lx ly hx hy _).mono ?_; rintro e wA ⟨rfl, hbA⟩; have hBA : Below wr.heap.size wr wA := below_step (by repeat first | assumption | exact Below.refl _ _ | refine Below.drew ?_ | refine below_alloc ?_ _ (Nat.le_refl _)) hbA)
          | (go_at_call 20; refine (specPoints_any _ _ [(lx, ly)] 0 _ (by simp) (by first | exact own_new _ 0 (Nat.zero_le _) 25 2 1 [_, _] rfl (by omega) | exact own_below (own_new _ 0 (Nat.zero_le _) 25 2 1 [_, _] rfl (by omega)).drew hbA (by simp) | exact own_below (own_new _ 0 (Nat.zero_le _) 25 2 1 [_, _] rfl (by omega)) hbA (by simp))).mono ?_; rintro e wB ⟨aoB, capB, rfl, hoB, hbB⟩; have hBB : Below wr.heap.size wr wB := below_step (by repeat first | assumption | exact Below.refl _ _ | refine Below.drew ?_ | refine below_alloc ?_ _ (Nat.le_refl _)) hbB)
          | (go_at_call 18; refine (implPoints_any lx ly hx hy smb.1.1 smb.1.2 smb.2.1 smb.2.2 _ _ [(lx, ly)] _ _ hlow (by simp) hoB).mono ?_; rw [HI.out]; rintro e wC ⟨aoC, capC, rfl, hoC, hbC⟩; have hBC : Below wr.heap.size wr wC := below_step (by repeat first | assumption | exact Below.refl _ _ | refine Below.drew ?_ | refine below_alloc ?_ _ (Nat.le_refl _)) hbC))
      all_goals
        go_wp2
        go_ret
        exact ⟨rfl, hB9.trans (hBC.mono hB9.size)⟩
end Go.Proofs.Ytlakfamodfgmcaa
