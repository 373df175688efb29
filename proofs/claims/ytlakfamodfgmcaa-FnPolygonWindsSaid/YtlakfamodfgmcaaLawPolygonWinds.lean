/- The walk of FnPolygonWinds. -/
import Derived.Test.YtlakfamodfgmcaaWayB
import Derived.Test.YtlakfamodfgmcaaRs
import Derived.Test.YtlakfamodfgmcaaAr
import Derived.Test.YtlakfamodfgmcaaMp
import Derived.Test.YtlakfamodfgmcaaPg
import Derived.Deep.QuietTactic
import Derived.BigQuiet
namespace Go.Proofs.Ytlakfamodfgmcaa
open Go.RowKit

theorem below_step {wr W wA : World} (h : Below wr.heap.size wr W) (hA : Below W.heap.size W wA) : Below wr.heap.size wr wA := h.trans (hA.mono h.size)

theorem closed_len (ws : List (Int × Int)) : (closedL ws).length ≤ ws.length + 3 := by
  have h1 : ∀ (f l : Int × Int) (ws : List (Int × Int)), (backX f l ws).length ≤ ws.length + 1 := fun f l ws => by unfold backX; split <;> simp
  have h2 : ∀ (f l : Int × Int) (ws : List (Int × Int)), (backY f l ws).length ≤ ws.length + 1 := fun f l ws => by unfold backY; split <;> simp
  have h3 : ∀ (f : Int × Int) (ws : List (Int × Int)), (backOne f ws).length ≤ ws.length + 1 := fun f ws => by unfold backOne; split <;> simp
  unfold closedL
  refine Nat.le_trans (h3 _ _) (Nat.add_le_add_right (Nat.le_trans (h2 _ _ _) (Nat.add_le_add_right (h1 _ _ _) 1)) 1)

/-- How often the rings that are left go around a point. -/
theorem poly_winds {X Y lx ly hx hy : Int} {o i : List (Int × Int)} (ho : windI X Y (ringL lx ly hx hy o) = windI X Y o) (hi : windI X Y (ringL lx ly hx hy i) = windI X Y i) (hg : windI X Y i ≠ 0 → windI X Y o ≠ 0) :
    ((polyL lx ly hx hy [o, i]).map fun r => windI X Y r).sum = windI X Y o + windI X Y i := by
  have h0 : windI X Y [] = 0 := by simp [windI, chainI]
  have e : polyL lx ly hx hy [o, i] = if ringL lx ly hx hy o = [] then [] else ringL lx ly hx hy o :: innersL lx ly hx hy [i] := rfl
  rw [e]
  by_cases hz : ringL lx ly hx hy o = []
  · rw [if_pos hz]
    rw [hz, h0] at ho
    have : windI X Y i = 0 := Classical.byContradiction fun h => hg h ho.symm
    simp [this, ← ho]
  · rw [if_neg hz]
    by_cases hy' : ringL lx ly hx hy i = []
    · rw [hy', h0] at hi
      simp [innersL, hy', ho, ← hi]
    · simp [innersL, hy', ho, hi]

set_option maxRecDepth 100000 in
set_option maxHeartbeats 2000000 in
theorem fnPolygonWinds_walk (a0 a1 a2 a3 a4 a5 : Int) (a6 : Option Addr) (len6 cap6 : Nat) (z6 : List Int) (a7 a8 : Int) (a9 : Option Addr) (len9 cap9 : Nat) (z9 : List Int) (w : World) (h0 : -128 ≤ a0) (h0' : a0 ≤ 127) (h1 : -128 ≤ a1) (h1' : a1 ≤ 127) (h2 : -128 ≤ a2) (h2' : a2 ≤ 127) (h3 : -128 ≤ a3) (h3' : a3 ≤ 127)
    (h4 : -128 ≤ a4) (h4' : a4 ≤ 127) (h5 : -128 ≤ a5) (h5' : a5 ≤ 127) (w6 : IsRow .u8 w a6 len6 cap6 z6) (h7 : -128 ≤ a7) (h7' : a7 ≤ 127) (h8 : -128 ≤ a8) (h8' : a8 ≤ 127) (w9 : IsRow .u8 w a9 len9 cap9 z9) :
    Calls Try.prog 10 #[.int .i8 a0, .int .i8 a1, .int .i8 a2, .int .i8 a3, .int .i8 a4, .int .i8 a5, .slice a6 len6 cap6, .int .i8 a7, .int .i8 a8, .slice a9 len9 cap9] w fun e w' => e = .returned (.bool true) ∧ Below w.heap.size w w' := by
  by_cases hbig : 2147483647 < (len6 : Int)
  · clear w6 w9
    go_enter Try.func10, Try.ntmps10
    go_wp2
    all_goals
      go_ret
      exact ⟨rfl, Below.refl _ _⟩
  by_cases hbig9 : 2147483647 < (len9 : Int)
  · clear w6 w9
    go_enter Try.func10, Try.ntmps10
    go_wp2
    all_goals
      go_ret
      exact ⟨rfl, Below.refl _ _⟩
  have hbig' : (len6 : Int) ≤ 2147483647 := by omega
  have hbig9' : (len9 : Int) ≤ 2147483647 := by omega
  clear hbig hbig9
  go_enter Try.func10, Try.ntmps10
  go_wp2_with fail
  refine (box_any a0 a1 a2 a3 h0 h0' h1 h1' h2 h2' h3 h3' _).mono ?_
  rintro e w1 ⟨lx, ly, hx, hy, rfl, hbox, hb1⟩
  have hnear := hbox.near h0 h0' h1 h1' h2 h2' h3 h3'
  clear hbox h0 h0' h1 h1' h2 h2' h3 h3'
  have hbx := (Blk.new w1 #[.int .i64 lx, .int .i64 ly, .int .i64 hx, .int .i64 hy] 27)
  have hB1 : Below w.heap.size w (w1.alloc (.cells #[.int .i64 lx, .int .i64 ly, .int .i64 hx, .int .i64 hy] 27)) := below_alloc hb1 _ (Nat.le_refl _)
  obtain ⟨bx, hbx0⟩ : ∃ bx, bx = w1.heap.size := ⟨_, rfl⟩
  rw [← hbx0] at hbx
  go_wp2_with fail
  rw [← hbx0]
  refine (way_walk a4 a5 a6 len6 cap6 z6 h4 h4' h5 h5' _ (w6.below hB1)).mono ?_
  rintro e w2 ⟨ao2, cap2, ps, rfl, hpw, hps0, hps1, hps, ho2, hb2⟩
  have hring := closed_ring hps0 (by omega) hps (by rw [hpw, wayL_head]; exact way_octi _ _ _ (octi_self _))
  have hbx2 := hbx.below hb2 hbx.lt
  have hB2 := hB1.trans (hb2.mono hB1.size)
  clear hpw w6 h4 h4' h5 h5' hb2 hbx hbx0 hB1 hb1
  go_wp2_with fail
  refine (closed_any ao2 cap2 ps _ _ hps0 (by omega) ho2).mono ?_
  rintro e w3 ⟨ao3, cap3, rfl, ho3, hb3⟩
  have hbx3 := hbx2.below hb3 hbx2.lt
  have hB3 := hB2.trans (hb3.mono hB2.size)
  have hrl : (closedL ps).length ≤ 100 := by have := closed_len ps; omega
  clear hb3 ho2 hB2 hps hps0 hps1 hbx2
  generalize closedL ps = rs at *
  obtain ⟨hrk, hrp⟩ := hring
  go_wp2_with fail
  refine (way_walk a7 a8 a9 len9 cap9 z9 h7 h7' h8 h8' _ (w9.below hB3)).mono ?_
  rintro e w4 ⟨ao4, cap4, qs, rfl, hqw, hqs0, hqs1, hqs, ho4, hb4⟩
  have hring2 := closed_ring hqs0 (by omega) hqs (by rw [hqw, wayL_head]; exact way_octi _ _ _ (octi_self _))
  have hbx4 := hbx3.below hb4 hbx3.lt
  have hor4 := own_below ho3 hb4 (Nat.le_refl _)
  have hB4 := hB3.trans (hb4.mono hB3.size)
  clear hqw w9 h7 h7' h8 h8' hb4 hbx3 hB3 ho3
  go_wp2_with fail
  refine (closed_any ao4 cap4 qs _ _ hqs0 (by omega) ho4).mono ?_
  rintro e w5 ⟨ao5, cap5, rfl, hoi, hb5⟩
  have hbx5 := hbx4.below hb5 hbx4.lt
  have hor := own_below hor4 hb5 (Nat.le_refl _)
  have hB5 := hB4.trans (hb5.mono hB4.size)
  have hil : (closedL qs).length ≤ 100 := by have := closed_len qs; omega
  clear hb5 ho4 hB4 hqs hqs0 hqs1 hbx4 hor4
  generalize closedL qs = us at *
  obtain ⟨huk, hup⟩ := hring2
  have smb : (Sm lx ∧ Sm ly) ∧ (Sm hx ∧ Sm hy) := by unfold Sm; omega
  have hrn := hrk.near
  have hun := huk.near
  have e0 : w5.cell? ⟨bx, 0, none⟩ = some (.int .i64 lx) := hbx5.cell 0
  have e1 : w5.cell? ⟨bx, 1, none⟩ = some (.int .i64 ly) := hbx5.cell 1
  have e2 : w5.cell? ⟨bx, 2, none⟩ = some (.int .i64 hx) := hbx5.cell 2
  have e3 : w5.cell? ⟨bx, 3, none⟩ = some (.int .i64 hy) := hbx5.cell 3
  go_wp2_with fail
  refine (small_any lx ly hx hy (by omega) (by omega) _).mono ?_
  rintro e w6 ⟨rfl, hb6⟩
  have hbx6 := hbx5.below hb6 hbx5.lt
  have hor6 := own_below hor hb6 (Nat.le_refl _)
  have hoi6 := own_below hoi hb6 (Nat.le_refl _)
  have hB6 := hB5.trans (hb6.mono hB5.size)
  clear hb6 hbx5 hor hoi hB5 e0 e1 e2 e3
  by_cases hsm : (decide (hx - lx ≤ 40) && decide (hy - ly ≤ 40)) = true
  · rw [hsm]
    clear hsm
    go_upto_region 7 with fail
    have e0 : w6.cell? ⟨bx, 0, none⟩ = some (.int .i64 lx) := hbx6.cell 0
    have e1 : w6.cell? ⟨bx, 1, none⟩ = some (.int .i64 ly) := hbx6.cell 1
    have e2 : w6.cell? ⟨bx, 2, none⟩ = some (.int .i64 hx) := hbx6.cell 2
    have e3 : w6.cell? ⟨bx, 3, none⟩ = some (.int .i64 hy) := hbx6.cell 3
    go_wp2_with fail
    go_loopw [24] (fun vx wr => ∃ X : Int, vx = .int .i64 X ∧ lx ≤ X ∧ X ≤ hx ∧ Hid (∀ X' Y', lx ≤ X' → X' < X → ly ≤ Y' → Y' < hy → windI X' Y' us ≠ 0 → windI X' Y' rs ≠ 0) ∧ Below w6.heap.size w6 wr)
      (fun vx _ => (hx - intOf vx).toNat)
    case atStart => exact ⟨lx, rfl, by omega, by omega, fun X' Y' a b => by omega, Below.refl _ _⟩
    case round =>
      obtain ⟨X, rfl, hX1, hX2, HG, hbel⟩ := hrel
      clear e0 e1 e2 e3
      have hbxr := hbx6.below hbel hbx6.lt
      have e0 : wr.cell? ⟨bx, 0, none⟩ = some (.int .i64 lx) := hbxr.cell 0
      have e1 : wr.cell? ⟨bx, 1, none⟩ = some (.int .i64 ly) := hbxr.cell 1
      have e2 : wr.cell? ⟨bx, 2, none⟩ = some (.int .i64 hx) := hbxr.cell 2
      have e3 : wr.cell? ⟨bx, 3, none⟩ = some (.int .i64 hy) := hbxr.cell 3
      by_cases hx1 : X < hx
      · go_wp2_with fail
        go_loopw [25] (fun vy wr => ∃ Y : Int, vy = .int .i64 Y ∧ ly ≤ Y ∧ Y ≤ hy ∧ Hid (∀ Y', ly ≤ Y' → Y' < Y → windI X Y' us ≠ 0 → windI X Y' rs ≠ 0) ∧ Below w6.heap.size w6 wr)
          (fun vy _ => (hy - intOf vy).toNat)
        case atStart => exact ⟨ly, rfl, by omega, by omega, fun Y' a b => by omega, hbel⟩
        case round =>
          clear e0 e1 e2 e3 hbxr hbel
          obtain ⟨Y, rfl, hY1, hY2, HY, hbel⟩ := hrel
          have hbxr := hbx6.below hbel hbx6.lt
          have e0 : wr.cell? ⟨bx, 0, none⟩ = some (.int .i64 lx) := hbxr.cell 0
          have e1 : wr.cell? ⟨bx, 1, none⟩ = some (.int .i64 ly) := hbxr.cell 1
          have e2 : wr.cell? ⟨bx, 2, none⟩ = some (.int .i64 hx) := hbxr.cell 2
          have e3 : wr.cell? ⟨bx, 3, none⟩ = some (.int .i64 hy) := hbxr.cell 3
          by_cases hy1 : Y < hy
          · have hor7 := own_below hor6 hbel (Nat.le_refl _)
            have hoi7 := own_below hoi6 hbel (Nat.le_refl _)
            have hwi := fun W (hB : Below wr.heap.size wr W) => spotWinds_any X Y (by omega) (by omega) ao5 cap5 us _ W (by omega) hun (own_below hoi7 hB (Nat.le_refl _))
            have hwr := fun W (hB : Below wr.heap.size wr W) => spotWinds_any X Y (by omega) (by omega) ao3 cap3 rs _ W (by omega) hrn (own_below hor7 hB (Nat.le_refl _))
            obtain ⟨ui, hui⟩ : ∃ ui, ui = windI X Y us := ⟨_, rfl⟩
            obtain ⟨ri, hri⟩ : ∃ ri, ri = windI X Y rs := ⟨_, rfl⟩
            have HU : Hid (ui = windI X Y us ∧ ri = windI X Y rs) := ⟨hui, hri⟩
            rw [← hui] at hwi
            rw [← hri] at hwr
            clear hui hri hor7 hoi7
            go_wp2_with fail
            refine (hwi _ (Below.refl _ _)).mono ?_
            rintro e w7 ⟨rfl, hb7⟩
            by_cases hz : ui = 0
            · subst hz
              go_wp2_with fail
              go_roundw
              case rel => exact ⟨Y + 1, by go_num, by omega, by omega, fun Y' a b c => by
                by_cases hYY : Y' = Y
                · subst hYY; exact absurd HU.out.1.symm c
                · exact HY.out Y' a (by omega) c, hbel.trans (hb7.mono hbel.size)⟩
              case measure => simp [intOf]; omega
            · go_wp2_with fail
              refine (hwr _ hb7).mono ?_
              rintro e w8 ⟨rfl, hb8⟩
              have hb9 := hbel.trans ((hb7.trans (hb8.mono hb7.size)).mono hbel.size)
              by_cases hr : ri = 0
              · subst hr
                go_wp2_with fail
                go_ret
                exact ⟨rfl, hB6.trans (hb9.mono hB6.size)⟩
              · have hzb : (ui != 0) = true := by simp [hz]
                have hrb : (ri == 0) = false := by simp [hr]
                go_wp2_with fail
                exact ⟨⟨Y + 1, rfl, by omega, by omega, fun Y' a b c => by
                  by_cases hYY : Y' = Y
                  · subst hYY; rw [← HU.out.2]; exact hr
                  · exact HY.out Y' a (by omega) c, hb9⟩, by simp [intOf]; omega⟩
          · obtain rfl : Y = hy := by omega
            go_wp2_with fail
            go_roundw
            case rel => exact ⟨X + 1, by go_num, by omega, by omega, fun X' Y' a b c d => by
              by_cases hXX : X' = X
              · subst hXX; exact HY.out Y' c d
              · exact HG.out X' Y' a (by omega) c d, hbel⟩
            case measure => simp [intOf]; omega
      · obtain rfl : X = hx := by omega
        have hguard := HG.out
        have hor7 := own_below hor6 hbel (Nat.le_refl _)
        have hoi7 := own_below hoi6 hbel (Nat.le_refl _)
        have hB7 : Below w.heap.size w wr := hB6.trans (hbel.mono hB6.size)
        have hsum : ∀ X' Y', lx ≤ X' → X' < X → ly ≤ Y' → Y' < hy → ((polyL lx ly X hy [rs, us]).map fun r => windI X' Y' r).sum = windI X' Y' rs + windI X' Y' us := fun X' Y' a b c d =>
          poly_winds (ring_winds ⟨a, b⟩ ⟨c, d⟩ hrk.near hrk.octi) (ring_winds ⟨a, b⟩ ⟨c, d⟩ huk.near huk.octi) (hguard X' Y' a b c d)
        have hpm : ∀ r ∈ polyL lx ly X hy [rs, us], (∀ p ∈ r, hasB lx ly X hy p.1 p.2 = true) ∧ r.length ≤ 100000 ∧ ∀ p ∈ r, Near p := fun r hr => by
          obtain ⟨l, hl, e⟩ := poly_mem hr
          have hlk : RingOk l ∧ l.length ≤ 100 := by
            simp only [List.mem_cons, List.not_mem_nil, or_false] at hl
            rcases hl with rfl | rfl
            · exact ⟨hrk, hrl⟩
            · exact ⟨huk, hil⟩
          have h1 := ring_len lx ly X hy l
          have h2 := hlk.2
          refine ⟨?_, by rw [e]; omega, ?_⟩
          · rw [e]; exact ring_in hlk.1.near hlk.1.octi
          · rw [e]; exact (ring_facts hlk.1.near hlk.1.octi).1
        have hpl := poly_len lx ly X hy [rs, us]
        have himpl := fun v xs B W hx0 hkk hxl hr => implPoly_any lx ly X hy (by unfold Near; omega) (by unfold Near; omega) (by omega) (by omega) v xs B W hkk hx0 hxl hr
        have hks : ∀ (a b : Value), ∀ x ∈ [(a, rs), (b, us)], RingOk x.2 := fun a b x hx => by
          simp only [List.mem_cons, List.not_mem_nil, or_false] at hx
          rcases hx with rfl | rfl
          · exact hrk
          · exact huk
        obtain ⟨ls, hls⟩ : ∃ ls, ls = polyL lx ly X hy [rs, us] := ⟨_, rfl⟩
        have himpl2 : ∀ (a b : Value) v B W, RowsAt W B 34 38 ptE v [(a, rs), (b, us)] → Calls Try.prog 29 #[.agg #[.float .f64 (F lx), .float .f64 (F ly), .float .f64 (F X), .float .f64 (F hy)], v] W
            fun e w' => ∃ v' ys, e = .returned v' ∧ ys.map Prod.snd = ls ∧ RowsAt w' W.heap.size 34 38 ptE v' ys ∧ Below W.heap.size W w' := fun a b v B W hr => by
          rw [hls]
          exact himpl v _ B W (by simp) (hks a b) (by simp) hr
        rw [← hls] at hsum hpm hpl
        have hpl : ls.length ≤ 2 := hpl
        clear hls himpl hks HG hguard hrk huk hbel hbx6 hor6 hoi6 hB6 hx1 hX1 hX2
        go_upto_region 15 with fail
        go_cut [26, 27] (fun v ok wc => ∃ ys : List (Value × List (Int × Int)), ok = .bool true ∧ ys.map Prod.snd = ls ∧ RowsAt wc 0 29 25 spotE v ys ∧ Below wr.heap.size wr wc)
        case first =>
          have HS : Hid (∀ W, Below wr.heap.size wr W → (W.cell? ⟨bx, 0, none⟩ = some (.int .i64 lx) ∧ W.cell? ⟨bx, 1, none⟩ = some (.int .i64 ly) ∧ W.cell? ⟨bx, 2, none⟩ = some (.int .i64 X) ∧ W.cell? ⟨bx, 3, none⟩ = some (.int .i64 hy))) :=
            fun W hb => ⟨cell_later hb e0, cell_later hb e1, cell_later hb e2, cell_later hb e3⟩
          have hrl2 : rs.length ≤ 100000000 := by omega
          have hil2 : us.length ≤ 100000000 := by omega
          have hin : ∀ ys : List (Value × List (Int × Int)), ys.map Prod.snd = ls → (∀ x ∈ ys, ∀ p ∈ x.2, hasB lx ly X hy p.1 p.2 = true) ∧ (∀ x ∈ ys, x.2.length ≤ 100000) ∧ ys.length ≤ 1000 := fun ys hys => by
            refine ⟨fun x hx => (hpm x.2 (by rw [← hys]; exact List.mem_map_of_mem hx)).1, fun x hx => (hpm x.2 (by rw [← hys]; exact List.mem_map_of_mem hx)).2.1, ?_⟩
            rw [← List.length_map (f := Prod.snd), hys]; omega
          go_region_held3 (fun w' => (w'.cell? ⟨bx, 0, none⟩ = some (.int .i64 lx) ∧ w'.cell? ⟨bx, 1, none⟩ = some (.int .i64 ly) ∧ w'.cell? ⟨bx, 2, none⟩ = some (.int .i64 X) ∧ w'.cell? ⟨bx, 3, none⟩ = some (.int .i64 hy)))
            ((refine HS.out _ ?_; repeat first | assumption | exact Below.refl _ _ | refine Below.drew ?_ | refine below_alloc ?_ _ (Nat.le_refl _)))
            (first
              | (go_at_call 19; refine (of_any lx ly X hy _).mono ?_; rintro e wA ⟨rfl, hbA⟩; have hBA : Below wr.heap.size wr wA := below_step (by repeat first | assumption | exact Below.refl _ _ | refine Below.drew ?_ | refine below_alloc ?_ _ (Nat.le_refl _)) hbA)
              | (go_at_call 20; (fail_if_success (have := hoB)); refine (specPoints_any ao3 _ rs _ _ hrl2 (own_below hor7 (by repeat first | assumption | exact Below.refl _ _ | refine Below.drew ?_ | refine below_alloc ?_ _ (Nat.le_refl _)) (Nat.le_refl _))).mono ?_; rintro e wB ⟨aoB, capB, rfl, hoB, hbB⟩; have hBB : Below wr.heap.size wr wB := below_step (by repeat first | assumption | exact Below.refl _ _ | refine Below.drew ?_ | refine below_alloc ?_ _ (Nat.le_refl _)) hbB)
              | (go_at_call 20; refine (specPoints_any ao5 _ us _ _ hil2 (own_below hoi7 (by repeat first | assumption | exact Below.refl _ _ | refine Below.drew ?_ | refine below_alloc ?_ _ (Nat.le_refl _)) (Nat.le_refl _))).mono ?_; rintro e wE ⟨aoE, capE, rfl, hoE, hbE⟩; have hBE : Below wr.heap.size wr wE := below_step (by repeat first | assumption | exact Below.refl _ _ | refine Below.drew ?_ | refine below_alloc ?_ _ (Nat.le_refl _)) hbE)
              | (go_at_call 29; refine (himpl2 (.slice aoB rs.length capB) (.slice aoE us.length capE) _ 0 _ (by first | exact rows_two (Nat.zero_le _) (own_below hoB (by repeat first | assumption | exact Below.refl _ _ | refine Below.drew ?_) (Nat.le_refl _)) hoE | exact (rows_two (Nat.zero_le _) (own_below hoB (by repeat first | assumption | exact Below.refl _ _ | refine Below.drew ?_) (Nat.le_refl _)) hoE).drew)).mono ?_; rintro e wC ⟨vC, ysC, rfl, hyC, hrC, hbC⟩; have hBC : Below wr.heap.size wr wC := below_step (by repeat first | assumption | exact Below.refl _ _ | refine Below.drew ?_ | refine below_alloc ?_ _ (Nat.le_refl _)) hbC)
              | (go_at_call 25; refine (rings_any lx ly X hy (by omega) (by omega) _ ysC _ _ (hin _ hyC).1 (hin _ hyC).2.1 (hin _ hyC).2.2 (by repeat first | exact hrC | refine RowsAt.drew ?_)).mono ?_; rintro e wD ⟨vD, ysD, rfl, hyD, hrD, hbD⟩; have hBD : Below wr.heap.size wr wD := below_step (by repeat first | assumption | exact Below.refl _ _ | refine Below.drew ?_ | refine below_alloc ?_ _ (Nat.le_refl _)) hbD))
          all_goals go_wp2_with fail
          all_goals go_meet
          all_goals exact ⟨ysD, rfl, hyD.trans hyC, hrD.mono (Nat.zero_le _), hBD⟩
        case rest =>
          obtain ⟨ys, rfl, hys, hrow, hb9⟩ := hcut
          have hor9 := own_below hor7 hb9 (Nat.le_refl _)
          have hoi9 := own_below hoi7 hb9 (Nat.le_refl _)
          have hbx9 := hbxr.below hb9 hbxr.lt
          have hB9 : Below w.heap.size w wc := hB7.trans (hb9.mono hB7.size)
          clear hb9 hor7 hoi7 hbxr hB7 e0 e1 e2 e3 himpl2
          obtain ⟨wr, rfl⟩ : ∃ wr, wr = wc := ⟨_, rfl⟩
          have e0 : wr.cell? ⟨bx, 0, none⟩ = some (.int .i64 lx) := hbx9.cell 0
          have e1 : wr.cell? ⟨bx, 1, none⟩ = some (.int .i64 ly) := hbx9.cell 1
          have e2 : wr.cell? ⟨bx, 2, none⟩ = some (.int .i64 X) := hbx9.cell 2
          have e3 : wr.cell? ⟨bx, 3, none⟩ = some (.int .i64 hy) := hbx9.cell 3
          have hyn : ∀ x ∈ ys, x.2.length ≤ 100000 ∧ ∀ p ∈ x.2, Near p := fun x hx => (hpm x.2 (by rw [← hys]; exact List.mem_map_of_mem hx)).2
          have hyl : ys.length ≤ 1000 := by rw [← List.length_map (f := Prod.snd), hys]; omega
          have hrn1 : ∀ x ∈ [(Value.slice ao3 rs.length cap3, rs), (Value.slice ao5 us.length cap5, us)], x.2.length ≤ 100000 ∧ ∀ p ∈ x.2, Near p := fun x hx => by
            simp only [List.mem_cons, List.not_mem_nil, or_false] at hx
            rcases hx with rfl | rfl
            · exact ⟨by show rs.length ≤ 100000; omega, hrn⟩
            · exact ⟨by show us.length ≤ 100000; omega, hun⟩
          have hall : ∀ X' Y', lx ≤ X' → X' < X → ly ≤ Y' → Y' < hy → sumW X' Y' ys = sumW X' Y' [(Value.slice ao3 rs.length cap3, rs), (Value.slice ao5 us.length cap5, us)] := fun X' Y' a b c d => by
            have h := hsum X' Y' a b c d
            have e : sumW X' Y' ys = ((ys.map Prod.snd).map fun r => windI X' Y' r).sum := by unfold sumW; rw [List.map_map]; rfl
            rw [e, hys, h]
            simp [sumW]
          have hlow : ∀ p ∈ [(lx, ly)], Sm p.1 ∧ Sm p.2 := fun p hp => by simp at hp; subst hp; exact smb.1
          have hin : [(lx, ly)].filter (fun p => hasB lx ly X hy p.1 p.2) = [(lx, ly)] := by simp [hasB]; omega
          have HI : Hid ([(lx, ly)].filter (fun p => hasB lx ly X hy p.1 p.2) = [(lx, ly)]) := hin
          clear hin hsum hpm hpl hys hrn hun hrl hil hrp hup hbx9
          go_wp2_with fail
          have HS : Hid (∀ W, Below wr.heap.size wr W → (W.cell? ⟨bx, 0, none⟩ = some (.int .i64 lx) ∧ W.cell? ⟨bx, 1, none⟩ = some (.int .i64 ly) ∧ W.cell? ⟨bx, 2, none⟩ = some (.int .i64 X) ∧ W.cell? ⟨bx, 3, none⟩ = some (.int .i64 hy))) :=
            fun W hb => ⟨cell_later hb e0, cell_later hb e1, cell_later hb e2, cell_later hb e3⟩
          go_region_held3 (fun w' => (w'.cell? ⟨bx, 0, none⟩ = some (.int .i64 lx) ∧ w'.cell? ⟨bx, 1, none⟩ = some (.int .i64 ly) ∧ w'.cell? ⟨bx, 2, none⟩ = some (.int .i64 X) ∧ w'.cell? ⟨bx, 3, none⟩ = some (.int .i64 hy)))
            ((refine HS.out _ ?_; repeat first | assumption | exact Below.refl _ _ | refine Below.drew ?_ | refine below_alloc ?_ _ (Nat.le_refl _)))
            (first
              | (go_at_call 26; refine (around_any lx ly X hy (by omega) (by omega) _ _ ys _ 0 0 _ hyn hrn1 hyl (by simp) hall (by repeat first | exact hrow | refine RowsAt.drew ?_ | refine RowsAt.alloc ?_ _) (by first | exact rows_two (Nat.zero_le _) hor9 hoi9 | exact (rows_two (Nat.zero_le _) hor9 hoi9).drew | exact rows_two (Nat.zero_le _) hor9.drew hoi9.drew)).mono ?_; rintro e wD ⟨rfl, hbD⟩; have hBD : Below wr.heap.size wr wD := below_step (by repeat first | assumption | exact Below.refl _ _ | refine Below.drew ?_ | refine below_alloc ?_ _ (Nat.le_refl _)) hbD)
              | (go_at_call 19; refine (of_any lx ly X hy _).mono ?_; rintro e wA ⟨rfl, hbA⟩; have hBA : Below wr.heap.size wr wA := below_step (by repeat first | assumption | exact Below.refl _ _ | refine Below.drew ?_ | refine below_alloc ?_ _ (Nat.le_refl _)) hbA)
              | (go_at_call 20; refine (specPoints_any _ _ [(lx, ly)] 0 _ (by simp) (by first | exact own_new _ 0 (Nat.zero_le _) 25 2 1 [_, _] rfl (by omega) | exact own_below (own_new _ 0 (Nat.zero_le _) 25 2 1 [_, _] rfl (by omega)).drew hbA (by simp) | exact own_below (own_new _ 0 (Nat.zero_le _) 25 2 1 [_, _] rfl (by omega)) hbA (by simp))).mono ?_; rintro e wB ⟨aoB, capB, rfl, hoB, hbB⟩; have hBB : Below wr.heap.size wr wB := below_step (by repeat first | assumption | exact Below.refl _ _ | refine Below.drew ?_ | refine below_alloc ?_ _ (Nat.le_refl _)) hbB)
              | (go_at_call 18; refine (implPoints_any lx ly X hy smb.1.1 smb.1.2 smb.2.1 smb.2.2 _ _ [(lx, ly)] _ _ hlow (by simp) hoB).mono ?_; rw [HI.out]; rintro e wC ⟨aoC, capC, rfl, hoC, hbC⟩; have hBC : Below wr.heap.size wr wC := below_step (by repeat first | assumption | exact Below.refl _ _ | refine Below.drew ?_ | refine below_alloc ?_ _ (Nat.le_refl _)) hbC))
          all_goals
            go_wp2
            go_ret
            exact ⟨rfl, hB9.trans (hBC.mono hB9.size)⟩
  · rw [Bool.not_eq_true _ |>.mp hsm]
    go_wp2_with fail
    go_ret
    exact ⟨rfl, hB6⟩
end Go.Proofs.Ytlakfamodfgmcaa
