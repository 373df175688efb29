/- The walk of FnRingAgain. -/
import Derived.Test.YtlakfamodfgmcaaWayB
import Derived.Test.YtlakfamodfgmcaaRs
import Derived.Test.YtlakfamodfgmcaaAr
import Derived.Test.YtlakfamodfgmcaaMp
import Derived.Deep.QuietTactic
import Derived.BigQuiet
namespace Go.Proofs.Ytlakfamodfgmcaa
open Go.RowKit

theorem below_step {wr W wA : World} (h : Below wr.heap.size wr W) (hA : Below W.heap.size W wA) : Below wr.heap.size wr wA := h.trans (hA.mono h.size)

theorem blk_at {w : World} {n : Nat} {cs : Array Value} {e : TypeId} (h : n = w.heap.size) : Blk (w.alloc (.cells cs e)) n cs e := by
  subst h; exact Blk.new _ _ _

theorem closed_len (ws : List (Int × Int)) : (closedL ws).length ≤ ws.length + 3 := by
  have h1 : ∀ (f l : Int × Int) (ws : List (Int × Int)), (backX f l ws).length ≤ ws.length + 1 := fun f l ws => by unfold backX; split <;> simp
  have h2 : ∀ (f l : Int × Int) (ws : List (Int × Int)), (backY f l ws).length ≤ ws.length + 1 := fun f l ws => by unfold backY; split <;> simp
  have h3 : ∀ (f : Int × Int) (ws : List (Int × Int)), (backOne f ws).length ≤ ws.length + 1 := fun f ws => by unfold backOne; split <;> simp
  unfold closedL
  refine Nat.le_trans (h3 _ _) (Nat.add_le_add_right (Nat.le_trans (h2 _ _ _) (Nat.add_le_add_right (h1 _ _ _) 1)) 1)

set_option maxRecDepth 100000 in
set_option maxHeartbeats 2000000 in
theorem fnRingAgain_walk (a0 a1 a2 a3 a4 a5 a6 : Int) (a7 : Option Addr) (len7 cap7 : Nat) (z7 : List Int) (w : World) (h0 : -128 ≤ a0) (h0' : a0 ≤ 127) (h1 : -128 ≤ a1) (h1' : a1 ≤ 127) (h2 : -128 ≤ a2) (h2' : a2 ≤ 127) (h3 : -128 ≤ a3) (h3' : a3 ≤ 127)
    (h4 : -128 ≤ a4) (h4' : a4 ≤ 127) (h5 : -128 ≤ a5) (h5' : a5 ≤ 127) (h6 : -128 ≤ a6) (h6' : a6 ≤ 127) (w7 : IsRow .u8 w a7 len7 cap7 z7) :
    Calls Try.prog 6 #[.int .i8 a0, .int .i8 a1, .int .i8 a2, .int .i8 a3, .int .i8 a4, .int .i8 a5, .int .i8 a6, .slice a7 len7 cap7] w fun e w' => e = .returned (.bool true) ∧ Below w.heap.size w w' := by
  by_cases hbig : 2147483647 < (len7 : Int)
  · clear w7
    go_enter Try.func6, Try.ntmps6
    go_wp2
    go_ret
    exact ⟨rfl, Below.refl _ _⟩
  · have hbig' : (len7 : Int) ≤ 2147483647 := by omega
    clear hbig
    go_enter Try.func6, Try.ntmps6
    go_wp2_with fail
    refine (box_any a0 a1 a2 a3 h0 h0' h1 h1' h2 h2' h3 h3' _).mono ?_
    rintro e w1 ⟨lx, ly, hx, hy, rfl, hbox, hb1⟩
    have hnear := hbox.near h0 h0' h1 h1' h2 h2' h3 h3'
    clear hbox h0 h0' h1 h1' h2 h2' h3 h3'
    go_wp2_with fail
    refine (way_walk a5 a6 a7 len7 cap7 z7 h5 h5' h6 h6' _ (w7.below hb1)).mono ?_
    rintro e w2 ⟨ao2, cap2, ps, rfl, hpw, hps0, hps1, hps, ho2, hb2⟩
    have hring := closed_ring hps0 (by omega) hps (by rw [hpw, wayL_head]; exact way_octi _ _ _ (octi_self _))
    clear hpw
    have hB2 := hb1.trans (hb2.mono hb1.size)
    clear w7 h5 h5' h6 h6' hb1 hb2
    go_wp2_with fail
    refine (closed_any ao2 cap2 ps _ _ hps0 (by omega) ho2).mono ?_
    rintro e w3 ⟨ao3, cap3, rfl, ho3, hb3⟩
    have hB3 := hB2.trans (hb3.mono hB2.size)
    have hrl : (closedL ps).length ≤ 100 := by have := closed_len ps; omega
    clear hb3 ho2 hB2 hps hps0 hps1
    generalize closedL ps = rs at *
    obtain ⟨hrk, hrp⟩ := hring
    have smb : (Sm lx ∧ Sm ly) ∧ (Sm hx ∧ Sm hy) := by unfold Sm; omega
    go_upto_region 4 with fail
    go_cut [19] (fun v wc => ∃ gx : Int, v = .pointer (some ⟨w3.heap.size + 1, 0, none⟩) ∧ (lx < gx ∧ gx ≤ hx) ∧ Blk wc w3.heap.size #[.int .i64 lx, .int .i64 ly, .int .i64 hx, .int .i64 hy] 27 ∧ Blk wc (w3.heap.size + 1) #[.int .i64 lx, .int .i64 ly, .int .i64 gx, .int .i64 hy] 27 ∧ Below w3.heap.size w3 wc)
    case first =>
      go_wp2_with fail
      all_goals go_meet
      all_goals
        refine ⟨_, rfl, ?_, (Blk.new _ _ _).alloc _, blk_at (by simp), ((Below.refl _ _).alloc (Nat.le_refl _) _).alloc (by simp) _⟩
        omega
    case rest =>
      obtain ⟨gx, rfl, hgx, hbf, hbg, hb0⟩ := hcut
      have hB4 : Below w.heap.size w wc := hB3.trans (hb0.mono hB3.size)
      have ho4 := own_below ho3 hb0 (Nat.le_refl _)
      obtain ⟨bf, hbf0⟩ : ∃ bf, bf = w3.heap.size := ⟨_, rfl⟩
      obtain ⟨bg, hbg0⟩ : ∃ bg, bg = w3.heap.size + 1 := ⟨_, rfl⟩
      rw [← hbf0] at hbf
      rw [← hbg0] at hbg
      rw [← hbg0, ← hbf0]
      clear hb0 ho3 hB3 hbf0 hbg0 h4 h4'
      obtain ⟨wr, rfl⟩ : ∃ wr, wr = wc := ⟨_, rfl⟩
      have g0 : wr.cell? ⟨bg, 0, none⟩ = some (.int .i64 lx) := hbg.cell 0
      have g1 : wr.cell? ⟨bg, 1, none⟩ = some (.int .i64 ly) := hbg.cell 1
      have g2 : wr.cell? ⟨bg, 2, none⟩ = some (.int .i64 gx) := hbg.cell 2
      have g3 : wr.cell? ⟨bg, 3, none⟩ = some (.int .i64 hy) := hbg.cell 3
      go_wp2_with fail
      refine (small_any lx ly gx hy (by omega) (by omega) _).mono ?_
      rintro e w5 ⟨rfl, hb5⟩
      have hbf5 := hbf.below hb5 hbf.lt
      have hbg5 := hbg.below hb5 hbg.lt
      have ho5 := own_below ho4 hb5 (Nat.le_refl _)
      have hB5 : Below w.heap.size w w5 := hB4.trans (hb5.mono hB4.size)
      clear hb5 ho4 hB4 hbf hbg g0 g1 g2 g3
      by_cases hsm : (decide (gx - lx ≤ 40) && decide (hy - ly ≤ 40)) = true
      · rw [hsm]
        clear hsm
        -- the first ring
        obtain ⟨hfn, hfo, hfc⟩ := ring_facts (lx := lx) (ly := ly) (hx := hx) (hy := hy) hrk.near hrk.octi
        have hfw : ∀ X Y, lx ≤ X → X < gx → ly ≤ Y → Y < hy → windI X Y (ringL lx ly hx hy rs) = windI X Y rs := fun X Y a b c d => ring_winds ⟨a, by omega⟩ ⟨c, d⟩ hrk.near hrk.octi
        have hfl : (ringL lx ly hx hy rs).length ≤ 2000 := by have := ring_len lx ly hx hy rs; omega
        have himpl := fun ao cap B W hr => implRing_any lx ly hx hy (by unfold Near; omega) (by unfold Near; omega) (by omega) (by omega) ao cap rs B W hrk hr
        generalize ringL lx ly hx hy rs = fs at *
        have hfk : RingOk fs := ⟨hfl, hfn, hfo, hfc⟩
        -- both rings within the smaller box
        obtain ⟨hgn, _, _⟩ := ring_facts (lx := lx) (ly := ly) (hx := gx) (hy := hy) hrk.near hrk.octi
        have hgi := ring_in (lx := lx) (ly := ly) (hx := gx) (hy := hy) hrk.near hrk.octi
        have hgw : ∀ X Y, lx ≤ X → X < gx → ly ≤ Y → Y < hy → windI X Y (ringL lx ly gx hy rs) = windI X Y rs := fun X Y a b c d => ring_winds ⟨a, b⟩ ⟨c, d⟩ hrk.near hrk.octi
        have hgl : (ringL lx ly gx hy rs).length ≤ 100000 := by have := ring_len lx ly gx hy rs; omega
        have himplg := fun ao cap B W hr => implRing_any lx ly gx hy (by unfold Near; omega) (by unfold Near; omega) (by omega) (by omega) ao cap rs B W hrk hr
        generalize ringL lx ly gx hy rs = gs at *
        obtain ⟨hqn, _, _⟩ := ring_facts (lx := lx) (ly := ly) (hx := gx) (hy := hy) hfk.near hfk.octi
        have hqi := ring_in (lx := lx) (ly := ly) (hx := gx) (hy := hy) hfk.near hfk.octi
        have hqw : ∀ X Y, lx ≤ X → X < gx → ly ≤ Y → Y < hy → windI X Y (ringL lx ly gx hy fs) = windI X Y fs := fun X Y a b c d => ring_winds ⟨a, b⟩ ⟨c, d⟩ hfk.near hfk.octi
        have hql : (ringL lx ly gx hy fs).length ≤ 100000 := by have := ring_len lx ly gx hy fs; omega
        have himplq := fun ao cap B W hr => implRing_any lx ly gx hy (by unfold Near; omega) (by unfold Near; omega) (by omega) (by omega) ao cap fs B W hfk hr
        generalize ringL lx ly gx hy fs = qs at *
        have hall : ∀ X Y, lx ≤ X → X < gx → ly ≤ Y → Y < hy → windI X Y qs = windI X Y gs := fun X Y a b c d => by
          rw [hqw X Y a b c d, hfw X Y a b c d, hgw X Y a b c d]
        have hrl2 : rs.length ≤ 100000000 := by omega
        clear hqw hfw hgw hfo hfc hfn hfk hrk
        have f0 : w5.cell? ⟨bf, 0, none⟩ = some (.int .i64 lx) := hbf5.cell 0
        have f1 : w5.cell? ⟨bf, 1, none⟩ = some (.int .i64 ly) := hbf5.cell 1
        have f2 : w5.cell? ⟨bf, 2, none⟩ = some (.int .i64 hx) := hbf5.cell 2
        have f3 : w5.cell? ⟨bf, 3, none⟩ = some (.int .i64 hy) := hbf5.cell 3
        go_wp2_with fail
        refine (of_any lx ly hx hy _).mono ?_
        rintro e w6 ⟨rfl, hb6⟩
        have ho6 := own_below ho5 hb6 (Nat.le_refl _)
        have hbf6 := hbf5.below hb6 hbf5.lt
        have hbg6 := hbg5.below hb6 hbg5.lt
        have hB6 : Below w.heap.size w w6 := hB5.trans (hb6.mono hB5.size)
        clear hb6 ho5 hbf5 hbg5 hB5 f0 f1 f2 f3
        go_wp2_with fail
        refine (specPoints_any _ _ rs _ _ hrl2 ho6).mono ?_
        rintro e w7 ⟨ao7, cap7', rfl, ho7, hb7⟩
        have hor7 := own_below ho6 hb7 (Nat.le_refl _)
        have hbf7 := hbf6.below hb7 hbf6.lt
        have hbg7 := hbg6.below hb7 hbg6.lt
        have hB7 : Below w.heap.size w w7 := hB6.trans (hb7.mono hB6.size)
        clear hb7 ho6 hbf6 hbg6 hB6
        go_wp2_with fail
        refine (himpl _ _ _ _ ho7).mono ?_
        rintro e w8 ⟨ao8, cap8, rfl, hof, hb8⟩
        have hor := own_below hor7 hb8 (Nat.le_refl _)
        have hbf := hbf7.below hb8 hbf7.lt
        have hbg := hbg7.below hb8 hbg7.lt
        have hB8 : Below w.heap.size w w8 := hB7.trans (hb8.mono hB7.size)
        clear hb8 ho7 hor7 hbf7 hbg7 hB7 himpl
        obtain ⟨wr, rfl⟩ : ∃ wr, wr = w8 := ⟨_, rfl⟩
        have g0 : wr.cell? ⟨bg, 0, none⟩ = some (.int .i64 lx) := hbg.cell 0
        have g1 : wr.cell? ⟨bg, 1, none⟩ = some (.int .i64 ly) := hbg.cell 1
        have g2 : wr.cell? ⟨bg, 2, none⟩ = some (.int .i64 gx) := hbg.cell 2
        have g3 : wr.cell? ⟨bg, 3, none⟩ = some (.int .i64 hy) := hbg.cell 3
        go_upto_region 8 with fail
        go_cut [21, 22] (fun v ok wc => ∃ ys : List (Value × List (Int × Int)), ok = .bool true ∧ ys.map Prod.snd = [qs] ∧ RowsAt wc 0 29 25 spotE v ys ∧ Below wr.heap.size wr wc)
        case first =>
          have HS : Hid (∀ W, Below wr.heap.size wr W → (W.cell? ⟨bg, 0, none⟩ = some (.int .i64 lx) ∧ W.cell? ⟨bg, 1, none⟩ = some (.int .i64 ly) ∧ W.cell? ⟨bg, 2, none⟩ = some (.int .i64 gx) ∧ W.cell? ⟨bg, 3, none⟩ = some (.int .i64 hy))) :=
            fun W hb => ⟨cell_later hb g0, cell_later hb g1, cell_later hb g2, cell_later hb g3⟩
          have hin : ∀ (ao6 : Option Addr) cap6, ∀ x ∈ [(Value.slice ao6 qs.length cap6, qs)], ∀ p ∈ x.2, hasB lx ly gx hy p.1 p.2 = true := fun ao6 cap6 x hx => by simp at hx; subst hx; exact hqi
          have hxl : ∀ (ao6 : Option Addr) cap6, ∀ x ∈ [(Value.slice ao6 qs.length cap6, qs)], x.2.length ≤ 100000 := fun ao6 cap6 x hx => by simp at hx; subst hx; exact hql
          go_region_held3 (fun w' => w'.cell? ⟨bg, 0, none⟩ = some (.int .i64 lx) ∧ w'.cell? ⟨bg, 1, none⟩ = some (.int .i64 ly) ∧ w'.cell? ⟨bg, 2, none⟩ = some (.int .i64 gx) ∧ w'.cell? ⟨bg, 3, none⟩ = some (.int .i64 hy))
            ((refine HS.out _ ?_; repeat first | assumption | exact Below.refl _ _ | refine Below.drew ?_ | refine below_alloc ?_ _ (Nat.le_refl _)))
            (first
              | (go_at_call 19; refine (of_any lx ly gx hy _).mono ?_; rintro e wA ⟨rfl, hbA⟩; have hBA : Below wr.heap.size wr wA := below_step (by repeat first | assumption | exact Below.refl _ _ | refine Below.drew ?_ | refine below_alloc ?_ _ (Nat.le_refl _)) hbA)
              | (go_at_call 23; refine (himplq _ _ _ _ (own_below hof (by repeat first | assumption | exact Below.refl _ _ | refine Below.drew ?_ | refine below_alloc ?_ _ (Nat.le_refl _)) (Nat.le_refl _))).mono ?_; rintro e wC ⟨aoC, capC, rfl, hoC, hbC⟩; have hBC : Below wr.heap.size wr wC := below_step (by repeat first | assumption | exact Below.refl _ _ | refine Below.drew ?_ | refine below_alloc ?_ _ (Nat.le_refl _)) hbC)
              | (go_at_call 25; refine (rings_any lx ly gx hy (by omega) (by omega) _ [(.slice aoC qs.length capC, qs)] 0 _ (hin _ _) (hxl _ _) (by simp) (by first | exact rows_one (Nat.zero_le _) hoC | exact (rows_one (Nat.zero_le _) hoC).drew | exact rows_one (Nat.zero_le _) hoC.drew)).mono ?_; rintro e wD ⟨vD, ysD, rfl, hyD, hrD, hbD⟩; have hBD : Below wr.heap.size wr wD := below_step (by repeat first | assumption | exact Below.refl _ _ | refine Below.drew ?_ | refine below_alloc ?_ _ (Nat.le_refl _)) hbD))
          all_goals go_wp2_with fail
          all_goals go_meet
          all_goals exact ⟨ysD, rfl, hyD, hrD.mono (Nat.zero_le _), hBD⟩
        case rest =>
          obtain ⟨ys, rfl, hys, hrow, hb9⟩ := hcut
          have hor9 := own_below hor hb9 (Nat.le_refl _)
          have hbf9 := hbf.below hb9 hbf.lt
          have hbg9 := hbg.below hb9 hbg.lt
          have hB9 : Below w.heap.size w wc := hB8.trans (hb9.mono hB8.size)
          clear hb9 hor hbf hbg hB8 hof g0 g1 g2 g3 himplq
          obtain ⟨wr, rfl⟩ : ∃ wr, wr = wc := ⟨_, rfl⟩
          have g0 : wr.cell? ⟨bg, 0, none⟩ = some (.int .i64 lx) := hbg9.cell 0
          have g1 : wr.cell? ⟨bg, 1, none⟩ = some (.int .i64 ly) := hbg9.cell 1
          have g2 : wr.cell? ⟨bg, 2, none⟩ = some (.int .i64 gx) := hbg9.cell 2
          have g3 : wr.cell? ⟨bg, 3, none⟩ = some (.int .i64 hy) := hbg9.cell 3
          go_upto_region 9 with fail
          go_cut [23, 24] (fun v ok wc => ∃ ys : List (Value × List (Int × Int)), ok = .bool true ∧ ys.map Prod.snd = [gs] ∧ RowsAt wc 0 29 25 spotE v ys ∧ Below wr.heap.size wr wc)
          case first =>
            have HS : Hid (∀ W, Below wr.heap.size wr W → (W.cell? ⟨bg, 0, none⟩ = some (.int .i64 lx) ∧ W.cell? ⟨bg, 1, none⟩ = some (.int .i64 ly) ∧ W.cell? ⟨bg, 2, none⟩ = some (.int .i64 gx) ∧ W.cell? ⟨bg, 3, none⟩ = some (.int .i64 hy))) :=
              fun W hb => ⟨cell_later hb g0, cell_later hb g1, cell_later hb g2, cell_later hb g3⟩
            have hin : ∀ (ao6 : Option Addr) cap6, ∀ x ∈ [(Value.slice ao6 gs.length cap6, gs)], ∀ p ∈ x.2, hasB lx ly gx hy p.1 p.2 = true := fun ao6 cap6 x hx => by simp at hx; subst hx; exact hgi
            have hxl : ∀ (ao6 : Option Addr) cap6, ∀ x ∈ [(Value.slice ao6 gs.length cap6, gs)], x.2.length ≤ 100000 := fun ao6 cap6 x hx => by simp at hx; subst hx; exact hgl
            go_region_held3 (fun w' => w'.cell? ⟨bg, 0, none⟩ = some (.int .i64 lx) ∧ w'.cell? ⟨bg, 1, none⟩ = some (.int .i64 ly) ∧ w'.cell? ⟨bg, 2, none⟩ = some (.int .i64 gx) ∧ w'.cell? ⟨bg, 3, none⟩ = some (.int .i64 hy))
              ((refine HS.out _ ?_; repeat first | assumption | exact Below.refl _ _ | refine Below.drew ?_ | refine below_alloc ?_ _ (Nat.le_refl _)))
              (first
                | (go_at_call 19; refine (of_any lx ly gx hy _).mono ?_; rintro e wA ⟨rfl, hbA⟩; have hBA : Below wr.heap.size wr wA := below_step (by repeat first | assumption | exact Below.refl _ _ | refine Below.drew ?_ | refine below_alloc ?_ _ (Nat.le_refl _)) hbA)
                    | (go_at_call 20; refine (specPoints_any _ _ rs _ _ hrl2 (own_below hor9 (by repeat first | assumption | exact Below.refl _ _ | refine Below.drew ?_ | refine below_alloc ?_ _ (Nat.le_refl _)) (Nat.le_refl _))).mono ?_; rintro e wB ⟨aoB, capB, rfl, hoB, hbB⟩; have hBB : Below wr.heap.size wr wB := below_step (by repeat first | assumption | exact Below.refl _ _ | refine Below.drew ?_ | refine below_alloc ?_ _ (Nat.le_refl _)) hbB)
                | (go_at_call 23; refine (himplg _ _ _ _ (by repeat first | exact hoB | refine World.ownsRow.drew ?_ | refine World.ownsRow.alloc ?_ _)).mono ?_; rintro e wC ⟨aoC, capC, rfl, hoC, hbC⟩; have hBC : Below wr.heap.size wr wC := below_step (by repeat first | assumption | exact Below.refl _ _ | refine Below.drew ?_ | refine below_alloc ?_ _ (Nat.le_refl _)) hbC)
                | (go_at_call 25; refine (rings_any lx ly gx hy (by omega) (by omega) _ [(.slice aoC gs.length capC, gs)] 0 _ (hin _ _) (hxl _ _) (by simp) (by first | exact rows_one (Nat.zero_le _) hoC | exact (rows_one (Nat.zero_le _) hoC).drew | exact rows_one (Nat.zero_le _) hoC.drew)).mono ?_; rintro e wD ⟨vD, ysD, rfl, hyD, hrD, hbD⟩; have hBD : Below wr.heap.size wr wD := below_step (by repeat first | assumption | exact Below.refl _ _ | refine Below.drew ?_ | refine below_alloc ?_ _ (Nat.le_refl _)) hbD))
            all_goals go_wp2_with fail
            all_goals go_meet
            all_goals exact ⟨ysD, rfl, hyD, hrD.mono (Nat.zero_le _), hBD⟩
          case rest =>
            obtain ⟨zs, rfl, hzs, hrow2, hb10⟩ := hcut
            have hrow1 := hrow.below hb10 (Nat.le_refl _)
            have hbf10 := hbf9.below hb10 hbf9.lt
            have hbg10 := hbg9.below hb10 hbg9.lt
            have hB10 : Below w.heap.size w wc := hB9.trans (hb10.mono hB9.size)
            clear hb10 hor9 hbf9 hbg9 hB9 hrow g0 g1 g2 g3 himplg
            obtain ⟨wr, rfl⟩ : ∃ wr, wr = wc := ⟨_, rfl⟩
            have g0 : wr.cell? ⟨bg, 0, none⟩ = some (.int .i64 lx) := hbg10.cell 0
            have g1 : wr.cell? ⟨bg, 1, none⟩ = some (.int .i64 ly) := hbg10.cell 1
            have g2 : wr.cell? ⟨bg, 2, none⟩ = some (.int .i64 gx) := hbg10.cell 2
            have g3 : wr.cell? ⟨bg, 3, none⟩ = some (.int .i64 hy) := hbg10.cell 3
            have f0 : wr.cell? ⟨bf, 0, none⟩ = some (.int .i64 lx) := hbf10.cell 0
            have f1 : wr.cell? ⟨bf, 1, none⟩ = some (.int .i64 ly) := hbf10.cell 1
            have f2 : wr.cell? ⟨bf, 2, none⟩ = some (.int .i64 hx) := hbf10.cell 2
            have f3 : wr.cell? ⟨bf, 3, none⟩ = some (.int .i64 hy) := hbf10.cell 3
            have hyn : ∀ x ∈ ys, x.2.length ≤ 100000 ∧ ∀ p ∈ x.2, Near p := fun x hx => by
              have hm : x.2 ∈ ys.map Prod.snd := List.mem_map_of_mem hx
              rw [hys, List.mem_singleton] at hm
              rw [hm]; exact ⟨hql, hqn⟩
            have hyl : ys.length ≤ 1000 := by rw [← List.length_map (f := Prod.snd), hys]; simp
            have hzn : ∀ x ∈ zs, x.2.length ≤ 100000 ∧ ∀ p ∈ x.2, Near p := fun x hx => by
              have hm : x.2 ∈ zs.map Prod.snd := List.mem_map_of_mem hx
              rw [hzs, List.mem_singleton] at hm
              rw [hm]; exact ⟨hgl, hgn⟩
            have hzl : zs.length ≤ 1000 := by rw [← List.length_map (f := Prod.snd), hzs]; simp
            have hsum : ∀ X Y, lx ≤ X → X < gx → ly ≤ Y → Y < hy → sumW X Y ys = sumW X Y zs := fun X Y a b c d => by
              have h := hall X Y a b c d
              have e : ∀ us : List (Value × List (Int × Int)), sumW X Y us = ((us.map Prod.snd).map fun r => windI X Y r).sum := fun us => by unfold sumW; rw [List.map_map]; rfl
              rw [e, e, hys, hzs]
              simpa using h
            have hlow : ∀ p ∈ [(lx, ly)], Sm p.1 ∧ Sm p.2 := fun p hp => by simp at hp; subst hp; exact smb.1
            have hin : [(lx, ly)].filter (fun p => hasB lx ly hx hy p.1 p.2) = [(lx, ly)] := by simp [hasB]; omega
            have HI : Hid ([(lx, ly)].filter (fun p => hasB lx ly hx hy p.1 p.2) = [(lx, ly)]) := hin
            clear hin hall hgl hgn hgi hql hqn hqi hys hzs hrp hrl hrl2 hfl hbf10 hbg10
            go_wp2_with fail
            have HS : Hid (∀ W, Below wr.heap.size wr W → ((W.cell? ⟨bg, 0, none⟩ = some (.int .i64 lx) ∧ W.cell? ⟨bg, 1, none⟩ = some (.int .i64 ly) ∧ W.cell? ⟨bg, 2, none⟩ = some (.int .i64 gx) ∧ W.cell? ⟨bg, 3, none⟩ = some (.int .i64 hy)) ∧
              (W.cell? ⟨bf, 0, none⟩ = some (.int .i64 lx) ∧ W.cell? ⟨bf, 1, none⟩ = some (.int .i64 ly) ∧ W.cell? ⟨bf, 2, none⟩ = some (.int .i64 hx) ∧ W.cell? ⟨bf, 3, none⟩ = some (.int .i64 hy)))) :=
              fun W hb => ⟨⟨cell_later hb g0, cell_later hb g1, cell_later hb g2, cell_later hb g3⟩, cell_later hb f0, cell_later hb f1, cell_later hb f2, cell_later hb f3⟩
            go_region_held3 (fun w' => (w'.cell? ⟨bg, 0, none⟩ = some (.int .i64 lx) ∧ w'.cell? ⟨bg, 1, none⟩ = some (.int .i64 ly) ∧ w'.cell? ⟨bg, 2, none⟩ = some (.int .i64 gx) ∧ w'.cell? ⟨bg, 3, none⟩ = some (.int .i64 hy)) ∧
                (w'.cell? ⟨bf, 0, none⟩ = some (.int .i64 lx) ∧ w'.cell? ⟨bf, 1, none⟩ = some (.int .i64 ly) ∧ w'.cell? ⟨bf, 2, none⟩ = some (.int .i64 hx) ∧ w'.cell? ⟨bf, 3, none⟩ = some (.int .i64 hy)))
              ((refine HS.out _ ?_; repeat first | assumption | exact Below.refl _ _ | refine Below.drew ?_ | refine below_alloc ?_ _ (Nat.le_refl _)))
              (first
                | (go_at_call 26; refine (around_any lx ly gx hy (by omega) (by omega) _ _ ys zs 0 0 _ hyn hzn hyl hzl hsum (by repeat first | exact hrow1 | refine RowsAt.drew ?_ | refine RowsAt.alloc ?_ _) (by repeat first | exact hrow2 | refine RowsAt.drew ?_ | refine RowsAt.alloc ?_ _)).mono ?_; rintro e wD ⟨rfl, hbD⟩; have hBD : Below wr.heap.size wr wD := below_step (by repeat first | assumption | exact Below.refl _ _ | refine Below.drew ?_ | refine below_alloc ?_ _ (Nat.le_refl _)) hbD)
                | (go_at_call 19; refine (of_any lx ly hx hy _).mono ?_; rintro e wA ⟨rfl, hbA⟩; have hBA : Below wr.heap.size wr wA := below_step (by repeat first | assumption | exact Below.refl _ _ | refine Below.drew ?_ | refine below_alloc ?_ _ (Nat.le_refl _)) hbA)
                | (go_at_call 20; refine (specPoints_any _ _ [(lx, ly)] 0 _ (by simp) (by first | exact own_new _ 0 (Nat.zero_le _) 25 2 1 [_, _] rfl (by omega) | exact own_below (own_new _ 0 (Nat.zero_le _) 25 2 1 [_, _] rfl (by omega)).drew hbA (by simp) | exact own_below (own_new _ 0 (Nat.zero_le _) 25 2 1 [_, _] rfl (by omega)) hbA (by simp))).mono ?_; rintro e wB ⟨aoB, capB, rfl, hoB, hbB⟩; have hBB : Below wr.heap.size wr wB := below_step (by repeat first | assumption | exact Below.refl _ _ | refine Below.drew ?_ | refine below_alloc ?_ _ (Nat.le_refl _)) hbB)
                | (go_at_call 18; refine (implPoints_any lx ly hx hy smb.1.1 smb.1.2 smb.2.1 smb.2.2 _ _ [(lx, ly)] _ _ hlow (by simp) hoB).mono ?_; rw [HI.out]; rintro e wC ⟨aoC, capC, rfl, hoC, hbC⟩; have hBC : Below wr.heap.size wr wC := below_step (by repeat first | assumption | exact Below.refl _ _ | refine Below.drew ?_ | refine below_alloc ?_ _ (Nat.le_refl _)) hbC))
            all_goals
              go_wp2
              go_ret
              exact ⟨rfl, hB10.trans (hBC.mono hB10.size)⟩
      · rw [Bool.not_eq_true _ |>.mp hsm]
        go_wp2_with fail
        go_ret
        exact ⟨rfl, hB5⟩
end Go.Proofs.Ytlakfamodfgmcaa
