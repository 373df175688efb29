/- The walk of FnRingWinds. -/
import Derived.Test.YtlakfamodfgmcaaWayB
import Derived.Test.YtlakfamodfgmcaaRs
import Derived.Test.YtlakfamodfgmcaaAr
import Derived.Test.YtlakfamodfgmcaaMp
import Derived.Deep.QuietTactic
import Derived.BigQuiet
namespace Go.Proofs.Ytlakfamodfgmcaa
open Go.RowKit

theorem below_step {wr W wA : World} (h : Below wr.heap.size wr W) (hA : Below W.heap.size W wA) : Below wr.heap.size wr wA := h.trans (hA.mono h.size)

set_option maxRecDepth 100000 in
set_option maxHeartbeats 2000000 in
theorem fnRingWinds_walk (a0 a1 a2 a3 a4 a5 : Int) (a6 : Option Addr) (len6 cap6 : Nat) (z6 : List Int) (w : World) (h0 : -128 ≤ a0) (h0' : a0 ≤ 127) (h1 : -128 ≤ a1) (h1' : a1 ≤ 127) (h2 : -128 ≤ a2) (h2' : a2 ≤ 127) (h3 : -128 ≤ a3) (h3' : a3 ≤ 127)
    (h4 : -128 ≤ a4) (h4' : a4 ≤ 127) (h5 : -128 ≤ a5) (h5' : a5 ≤ 127) (w6 : IsRow .u8 w a6 len6 cap6 z6) :
    Calls Try.prog 8 #[.int .i8 a0, .int .i8 a1, .int .i8 a2, .int .i8 a3, .int .i8 a4, .int .i8 a5, .slice a6 len6 cap6] w fun e w' => e = .returned (.bool true) ∧ Below w.heap.size w w' := by
  by_cases hbig : 2147483647 < (len6 : Int)
  · clear w6
    go_enter Try.func8, Try.ntmps8
    go_wp2
    go_ret
    exact ⟨rfl, Below.refl _ _⟩
  · have hbig' : (len6 : Int) ≤ 2147483647 := by omega
    clear hbig
    go_enter Try.func8, Try.ntmps8
    go_wp2_with fail
    refine (box_any a0 a1 a2 a3 h0 h0' h1 h1' h2 h2' h3 h3' _).mono ?_
    rintro e w1 ⟨lx, ly, hx, hy, rfl, hbox, hb1⟩
    have hnear := hbox.near h0 h0' h1 h1' h2 h2' h3 h3'
    clear hbox h0 h0' h1 h1' h2 h2' h3 h3'
    go_wp2_with fail
    refine (way_walk a4 a5 a6 len6 cap6 z6 h4 h4' h5 h5' _ (w6.below hb1)).mono ?_
    rintro e w2 ⟨ao2, cap2, ps, rfl, hpw, hps0, hps1, hps, ho2, hb2⟩
    have hring := closed_ring hps0 (by omega) hps (by rw [hpw, wayL_head]; exact way_octi _ _ _ (octi_self _))
    clear hpw
    have hB2 := hb1.trans (hb2.mono hb1.size)
    clear w6 h4 h4' h5 h5' hb1 hb2
    go_wp2_with fail
    refine (closed_any ao2 cap2 ps _ _ hps0 (by omega) ho2).mono ?_
    rintro e w3 ⟨ao3, cap3, rfl, ho3, hb3⟩
    have hB3 := hB2.trans (hb3.mono hB2.size)
    clear hb3 ho2 hB2 hps hps0 hps1
    generalize closedL ps = rs at *
    obtain ⟨hrk, hrp⟩ := hring
    have hrl := hrk.len
    have smb : (Sm lx ∧ Sm ly) ∧ (Sm hx ∧ Sm hy) := by unfold Sm; omega
    obtain ⟨hgn, _, hgc⟩ := ring_facts (lx := lx) (ly := ly) (hx := hx) (hy := hy) hrk.near hrk.octi
    have hgi := ring_in (lx := lx) (ly := ly) (hx := hx) (hy := hy) hrk.near hrk.octi
    have hgw : ∀ X Y, lx ≤ X → X < hx → ly ≤ Y → Y < hy → windI X Y (ringL lx ly hx hy rs) = windI X Y rs := fun X Y a b c d => ring_winds ⟨a, b⟩ ⟨c, d⟩ hrk.near hrk.octi
    have hgl : (ringL lx ly hx hy rs).length ≤ 100000 := by have := ring_len lx ly hx hy rs; omega
    have himpl := fun ao cap B W hr => implRing_any lx ly hx hy (by unfold Near; omega) (by unfold Near; omega) (by omega) (by omega) ao cap rs B W hrk hr
    have hrn := hrk.near
    generalize ringL lx ly hx hy rs = qs at *
    go_wp2_with fail
    refine (small_any lx ly hx hy (by omega) (by omega) _).mono ?_
    rintro e w4 ⟨rfl, hb4⟩
    have hbox4 := (Blk.new w3 #[.int .i64 lx, .int .i64 ly, .int .i64 hx, .int .i64 hy] 27).below hb4 (by simp)
    have hB4 : Below w.heap.size w w4 := (below_alloc hB3 _ (Nat.le_refl _)).trans (hb4.mono (by have := hB3.size; simp; omega))
    have ho4 := own_below (ho3.alloc (.cells #[.int .i64 lx, .int .i64 ly, .int .i64 hx, .int .i64 hy] 27)) hb4 (Nat.le_refl _)
    have hsz3 := hB3.size
    clear hb4 ho3 hB3
    obtain ⟨bx, hbx⟩ : ∃ bx, bx = w3.heap.size := ⟨_, rfl⟩
    rw [← hbx] at hbox4 hsz3 ⊢
    clear hbx
    by_cases hsm : (decide (hx - lx ≤ 40) && decide (hy - ly ≤ 40)) = true
    · rw [hsm]
      have e0 : w4.cell? ⟨bx, 0, none⟩ = some (.int .i64 lx) := hbox4.cell 0
      have e1 : w4.cell? ⟨bx, 1, none⟩ = some (.int .i64 ly) := hbox4.cell 1
      have e2 : w4.cell? ⟨bx, 2, none⟩ = some (.int .i64 hx) := hbox4.cell 2
      have e3 : w4.cell? ⟨bx, 3, none⟩ = some (.int .i64 hy) := hbox4.cell 3
      go_wp2_with fail
      clear hsm
      go_cut [17, 18] (fun v ok wc => ∃ ys : List (Value × List (Int × Int)), ok = .bool true ∧ ys.map Prod.snd = [qs] ∧ RowsAt wc 0 29 25 spotE v ys ∧ Below w4.heap.size w4 wc)
      case first =>
        have HS : Hid (∀ W, Below w4.heap.size w4 W → (W.cell? ⟨bx, 0, none⟩ = some (.int .i64 lx) ∧ W.cell? ⟨bx, 1, none⟩ = some (.int .i64 ly) ∧ W.cell? ⟨bx, 2, none⟩ = some (.int .i64 hx) ∧ W.cell? ⟨bx, 3, none⟩ = some (.int .i64 hy))) :=
          fun W hb => ⟨cell_later hb e0, cell_later hb e1, cell_later hb e2, cell_later hb e3⟩
        have hin : ∀ (ao6 : Option Addr) cap6, ∀ x ∈ [(Value.slice ao6 qs.length cap6, qs)], ∀ p ∈ x.2, hasB lx ly hx hy p.1 p.2 = true := fun ao6 cap6 x hx => by simp at hx; subst hx; exact hgi
        have hxl : ∀ (ao6 : Option Addr) cap6, ∀ x ∈ [(Value.slice ao6 qs.length cap6, qs)], x.2.length ≤ 100000 := fun ao6 cap6 x hx => by simp at hx; subst hx; exact hgl
        go_region_held3 (fun w' => w'.cell? ⟨bx, 0, none⟩ = some (.int .i64 lx) ∧ w'.cell? ⟨bx, 1, none⟩ = some (.int .i64 ly) ∧ w'.cell? ⟨bx, 2, none⟩ = some (.int .i64 hx) ∧ w'.cell? ⟨bx, 3, none⟩ = some (.int .i64 hy))
          ((refine HS.out _ ?_; repeat first | assumption | exact Below.refl _ _ | refine Below.drew ?_ | refine below_alloc ?_ _ (Nat.le_refl _)))
          (first
            | (go_at_call 19; refine (of_any lx ly hx hy _).mono ?_; rintro e wA ⟨rfl, hbA⟩; have hBA : Below w4.heap.size w4 wA := below_step (by repeat first | assumption | exact Below.refl _ _ | refine Below.drew ?_ | refine below_alloc ?_ _ (Nat.le_refl _)) hbA)
            | (go_at_call 20; refine (specPoints_any _ _ rs _ _ (by omega) (own_below ho4 (by repeat first | assumption | exact Below.refl _ _ | refine Below.drew ?_ | refine below_alloc ?_ _ (Nat.le_refl _)) (Nat.le_refl _))).mono ?_; rintro e wB ⟨aoB, capB, rfl, hoB, hbB⟩; have hBB : Below w4.heap.size w4 wB := below_step (by repeat first | assumption | exact Below.refl _ _ | refine Below.drew ?_ | refine below_alloc ?_ _ (Nat.le_refl _)) hbB)
            | (go_at_call 23; refine (himpl _ _ _ _ (by repeat first | exact hoB | refine World.ownsRow.drew ?_ | refine World.ownsRow.alloc ?_ _)).mono ?_; rintro e wC ⟨aoC, capC, rfl, hoC, hbC⟩; have hBC : Below w4.heap.size w4 wC := below_step (by repeat first | assumption | exact Below.refl _ _ | refine Below.drew ?_ | refine below_alloc ?_ _ (Nat.le_refl _)) hbC)
            | (go_at_call 25; refine (rings_any lx ly hx hy (by omega) (by omega) _ [(.slice aoC qs.length capC, qs)] 0 _ (hin _ _) (hxl _ _) (by simp) (by first | exact rows_one (Nat.zero_le _) hoC | exact (rows_one (Nat.zero_le _) hoC).drew | exact rows_one (Nat.zero_le _) hoC.drew)).mono ?_; rintro e wD ⟨vD, ysD, rfl, hyD, hrD, hbD⟩; have hBD : Below w4.heap.size w4 wD := below_step (by repeat first | assumption | exact Below.refl _ _ | refine Below.drew ?_ | refine below_alloc ?_ _ (Nat.le_refl _)) hbD))
        all_goals go_wp2_with fail
        all_goals go_meet
        all_goals exact ⟨ysD, rfl, hyD, hrD.mono (Nat.zero_le _), hBD⟩
      case rest =>
        obtain ⟨ys, rfl, hys, hrow, hB5⟩ := hcut
        clear himpl
        have hbox5 := hbox4.below hB5 hbox4.lt
        have ho5 := own_below ho4 hB5 (Nat.le_refl _)
        have hB6 : Below w.heap.size w wc := hB4.trans (hB5.mono hB4.size)
        clear e0 e1 e2 e3 hbox4 ho4 hB5
        obtain ⟨wr, rfl⟩ : ∃ wr, wr = wc := ⟨_, rfl⟩
        have e0 : wr.cell? ⟨bx, 0, none⟩ = some (.int .i64 lx) := hbox5.cell 0
        have e1 : wr.cell? ⟨bx, 1, none⟩ = some (.int .i64 ly) := hbox5.cell 1
        have e2 : wr.cell? ⟨bx, 2, none⟩ = some (.int .i64 hx) := hbox5.cell 2
        have e3 : wr.cell? ⟨bx, 3, none⟩ = some (.int .i64 hy) := hbox5.cell 3
        have hyn : ∀ x ∈ ys, x.2.length ≤ 100000 ∧ ∀ p ∈ x.2, Near p := fun x hx => by
          have hm : x.2 ∈ ys.map Prod.snd := List.mem_map_of_mem hx
          rw [hys, List.mem_singleton] at hm
          rw [hm]; exact ⟨hgl, hgn⟩
        have hyl : ys.length ≤ 1000 := by rw [← List.length_map (f := Prod.snd), hys]; simp
        have hrn1 : ∀ x ∈ [(Value.slice ao3 rs.length cap3, rs)], x.2.length ≤ 100000 ∧ ∀ p ∈ x.2, Near p := fun x hx => by simp at hx; subst hx; exact ⟨by show rs.length ≤ 100000; omega, hrn⟩
        have hsum : ∀ X Y, lx ≤ X → X < hx → ly ≤ Y → Y < hy → sumW X Y ys = sumW X Y [(Value.slice ao3 rs.length cap3, rs)] := fun X Y a b c d => by
          have h := hgw X Y a b c d
          have e : sumW X Y ys = ((ys.map Prod.snd).map fun r => windI X Y r).sum := by unfold sumW; rw [List.map_map]; rfl
          rw [e, hys]
          simpa [sumW] using h
        clear hgw hgc hgi hgn hgl hrk hrp hrl hrn hys
        go_wp2_with fail
        have HS : Hid (∀ W, Below wr.heap.size wr W → (W.cell? ⟨bx, 0, none⟩ = some (.int .i64 lx) ∧ W.cell? ⟨bx, 1, none⟩ = some (.int .i64 ly) ∧ W.cell? ⟨bx, 2, none⟩ = some (.int .i64 hx) ∧ W.cell? ⟨bx, 3, none⟩ = some (.int .i64 hy))) :=
          fun W hb => ⟨cell_later hb e0, cell_later hb e1, cell_later hb e2, cell_later hb e3⟩
        have hlow : ∀ p ∈ [(lx, ly)], Sm p.1 ∧ Sm p.2 := fun p hp => by simp at hp; subst hp; exact smb.1
        have hin : [(lx, ly)].filter (fun p => hasB lx ly hx hy p.1 p.2) = [(lx, ly)] := by simp [hasB]; omega
        have HI : Hid ([(lx, ly)].filter (fun p => hasB lx ly hx hy p.1 p.2) = [(lx, ly)]) := hin
        clear hin
        go_region_held3 (fun w' => w'.cell? ⟨bx, 0, none⟩ = some (.int .i64 lx) ∧ w'.cell? ⟨bx, 1, none⟩ = some (.int .i64 ly) ∧ w'.cell? ⟨bx, 2, none⟩ = some (.int .i64 hx) ∧ w'.cell? ⟨bx, 3, none⟩ = some (.int .i64 hy))
          ((refine HS.out _ ?_; repeat first | assumption | exact Below.refl _ _ | refine Below.drew ?_ | refine below_alloc ?_ _ (Nat.le_refl _)))
          (first
            | (go_at_call 26; refine (around_any lx ly hx hy (by omega) (by omega) _ _ ys _ 0 0 _ hyn hrn1 hyl (by simp) hsum (by repeat first | exact hrow | refine RowsAt.drew ?_ | refine RowsAt.alloc ?_ _) (by first | exact rows_one (Nat.zero_le _) ho5 | exact (rows_one (Nat.zero_le _) ho5).drew | exact rows_one (Nat.zero_le _) ho5.drew)).mono ?_; rintro e wD ⟨rfl, hbD⟩; have hBD : Below wr.heap.size wr wD := below_step (by repeat first | assumption | exact Below.refl _ _ | refine Below.drew ?_ | refine below_alloc ?_ _ (Nat.le_refl _)) hbD)
            | (go_at_call 19; refine (of_any lx ly hx hy _).mono ?_; rintro e wA ⟨rfl, hbA⟩; have hBA : Below wr.heap.size wr wA := below_step (by repeat first | assumption | exact Below.refl _ _ | refine Below.drew ?_ | refine below_alloc ?_ _ (Nat.le_refl _)) hbA)
            | (go_at_call 20; refine (specPoints_any _ _ [(lx, ly)] 0 _ (by simp) (by first | exact own_new _ 0 (Nat.zero_le _) 25 2 1 [_, _] rfl (by omega) | exact own_below (own_new _ 0 (Nat.zero_le _) 25 2 1 [_, _] rfl (by omega)).drew hbA (by simp) | exact own_below (own_new _ 0 (Nat.zero_le _) 25 2 1 [_, _] rfl (by omega)) hbA (by simp))).mono ?_; rintro e wB ⟨aoB, capB, rfl, hoB, hbB⟩; have hBB : Below wr.heap.size wr wB := below_step (by repeat first | assumption | exact Below.refl _ _ | refine Below.drew ?_ | refine below_alloc ?_ _ (Nat.le_refl _)) hbB)
            | (go_at_call 18; refine (implPoints_any lx ly hx hy smb.1.1 smb.1.2 smb.2.1 smb.2.2 _ _ [(lx, ly)] _ _ hlow (by simp) hoB).mono ?_; rw [HI.out]; rintro e wC ⟨aoC, capC, rfl, hoC, hbC⟩; have hBC : Below wr.heap.size wr wC := below_step (by repeat first | assumption | exact Below.refl _ _ | refine Below.drew ?_ | refine below_alloc ?_ _ (Nat.le_refl _)) hbC))
        all_goals
          go_wp2
          go_ret
          exact ⟨rfl, hB6.trans (hBC.mono hB6.size)⟩
    · rw [Bool.not_eq_true _ |>.mp hsm]
      go_wp2_with fail
      go_ret
      exact ⟨rfl, hB4⟩
end Go.Proofs.Ytlakfamodfgmcaa
