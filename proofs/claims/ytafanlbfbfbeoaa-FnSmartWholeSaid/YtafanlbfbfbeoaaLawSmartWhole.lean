/- The walk of FnSmartWhole. -/
import Derived.Test.YtafanlbfbfbeoaaWayB
import Derived.Test.YtafanlbfbfbeoaaMs
import Derived.Test.YtafanlbfbfbeoaaSr
import Derived.Test.YtafanlbfbfbeoaaAx
import Derived.Test.YtafanlbfbfbeoaaCd
import Derived.Test.YtafanlbfbfbeoaaHas
import Derived.Test.YtafanlbfbfbeoaaMp
import Derived.Deep.QuietTactic
import Derived.BigQuiet
namespace Go.Proofs.Ytafanlbfbfbeoaa
open Go.RowKit

set_option maxRecDepth 100000 in
set_option maxHeartbeats 2000000 in
theorem fnSmartWhole_walk (a0 a1 a2 a3 a4 a5 : Int) (a6 : Option Addr) (len6 cap6 : Nat) (z6 : List Int) (w : World) (h0 : -128 ≤ a0) (h0' : a0 ≤ 127) (h1 : -128 ≤ a1) (h1' : a1 ≤ 127) (h2 : -128 ≤ a2) (h2' : a2 ≤ 127) (h3 : -128 ≤ a3) (h3' : a3 ≤ 127)
    (h4 : -128 ≤ a4) (h4' : a4 ≤ 127) (h5 : -128 ≤ a5) (h5' : a5 ≤ 127) (w6 : IsRow .u8 w a6 len6 cap6 z6) :
    Calls Try.prog 3 #[.int .i8 a0, .int .i8 a1, .int .i8 a2, .int .i8 a3, .int .i8 a4, .int .i8 a5, .slice a6 len6 cap6] w fun e w' => e = .returned (.bool true) ∧ Below w.heap.size w w' := by
  by_cases hbig : 2147483647 < (len6 : Int)
  · clear w6
    go_enter Try.func3, Try.ntmps3
    go_wp2
    go_ret
    exact ⟨rfl, Below.refl _ _⟩
  · have hbig' : (len6 : Int) ≤ 2147483647 := by omega
    clear hbig
    go_enter Try.func3, Try.ntmps3
    go_wp2_with fail
    refine (box_any a0 a1 a2 a3 h0 h0' h1 h1' h2 h2' h3 h3' _).mono ?_
    rintro e w1 ⟨lx, ly, hx, hy, rfl, hbox, hb1⟩
    have hnear := hbox.near h0 h0' h1 h1' h2 h2' h3 h3'
    clear hbox h0 h0' h1 h1' h2 h2' h3 h3'
    go_wp2_with fail
    refine (way_walk a4 a5 a6 len6 cap6 z6 h4 h4' h5 h5' _ (w6.below hb1)).mono ?_
    rintro e w2 ⟨ao2, cap2, ps, rfl, hpw, hps0, hps1, hps, ho2, hb2⟩
    have hring := closed_ring hps0 (by omega) hps (by rw [hpw, wayL_head]; exact way_octi _ _ _ (octi_self _))
    have hrl : (closedL ps).length ≤ 1000 := by have := closedL_len ps; omega
    clear hpw
    have hB2 := hb1.trans (hb2.mono hb1.size)
    clear w6 h4 h4' h5 h5' hb1 hb2
    go_wp2_with fail
    refine (closed_any ao2 cap2 ps _ _ hps0 (by omega) ho2).mono ?_
    rintro e w3 ⟨ao3, cap3, rfl, ho3, hb3⟩
    have hB3 := hB2.trans (hb3.mono hB2.size)
    clear hb3 ho2 hB2 hps hps0 hps1
    generalize closedL ps = rs at *
    obtain ⟨hrk, hrp⟩ := hring
    have hoct := ring_octi hrk
    go_wp2_with fail
    obtain ⟨wx, hwx⟩ : ∃ wx, wx = w3.alloc (.cells #[.int .i64 lx, .int .i64 ly, .int .i64 hx, .int .i64 hy] 27) := ⟨_, rfl⟩
    have hbx := Blk.new w3 #[.int .i64 lx, .int .i64 ly, .int .i64 hx, .int .i64 hy] 27
    have hB3x : Below w.heap.size w wx := by rw [hwx]; exact below_alloc hB3 _ (Nat.le_refl _)
    have ho3x := ho3.alloc (.cells #[.int .i64 lx, .int .i64 ly, .int .i64 hx, .int .i64 hy] 27)
    obtain ⟨bx, hbx0⟩ : ∃ bx, bx = w3.heap.size := ⟨_, rfl⟩
    rw [← hwx, ← hbx0] at hbx
    rw [← hwx] at ho3x ⊢
    rw [← hbx0]
    clear hwx hbx0 ho3 hB3
    refine (simple_any _ _ rs _ _ (by omega) hrk.near hoct ho3x).mono ?_
    rintro e w4 ⟨b4, rfl, hsb, hb4⟩
    have hbx4 := hbx.below hb4 hbx.lt
    have ho4 := own_below ho3x hb4 (Nat.le_refl _)
    have hB4 := hB3x.trans (hb4.mono hB3x.size)
    clear hb4 ho3x hB3x hbx
    cases b4 with
    | false =>
      clear hsb
      go_wp2_with fail
      go_ret
      exact ⟨rfl, hB4⟩
    | true =>
    have HSB : Hid (SimpleB (stepsL rs)) := hsb rfl
    have e0 : w4.cell? ⟨bx, 0, none⟩ = some (.int .i64 lx) := hbx4.cell 0
    have e1 : w4.cell? ⟨bx, 1, none⟩ = some (.int .i64 ly) := hbx4.cell 1
    have e2 : w4.cell? ⟨bx, 2, none⟩ = some (.int .i64 hx) := hbx4.cell 2
    have e3 : w4.cell? ⟨bx, 3, none⟩ = some (.int .i64 hy) := hbx4.cell 3
    clear hsb
    go_wp2_with fail
    refine (clear_any lx ly hx hy _ _ rs _ _ (by omega) hrk.near hoct ho4).mono ?_
    rintro e w3 ⟨b5, rfl, hcb, hb5⟩
    have hbx5 := hbx4.below hb5 hbx4.lt
    have ho3 := own_below ho4 hb5 (Nat.le_refl _)
    have hB3 := hB4.trans (hb5.mono hB4.size)
    clear hb5 ho4 hB4 hbx4 e0 e1 e2 e3
    cases b5 with
    | false =>
      clear hcb
      go_wp2_with fail
      go_ret
      exact ⟨rfl, hB3⟩
    | true =>
    have HCB : Hid (∀ p ∈ rs, OffB lx ly hx hy p) := (hcb rfl).1
    clear hcb
    obtain ⟨g, hg, hc⟩ := spots_read ho3
    obtain ⟨rfl, hgs, _⟩ := hg hrp
    clear hg
    go_wp2_with fail
    go_loopw [46] (fun i wr => ∃ (k : Nat), k ≤ rs.length ∧ i = .int .i64 k ∧ Hid (∀ p ∈ rs.take k, hasB lx ly hx hy p.1 p.2 = true) ∧
        Blk wr bx #[.int .i64 lx, .int .i64 ly, .int .i64 hx, .int .i64 hy] 27 ∧ Below w3.heap.size w3 wr)
      (fun i _ => rs.length - (intOf i).toNat)
    case atStart => exact ⟨0, Nat.zero_le _, rfl, by show ∀ p ∈ _, _; simp, hbx5, Below.refl _ _⟩
    case round =>
      clear hbx5
      obtain ⟨k, hk, rfl, HA, hbox, hbel⟩ := hrel
      have hsz := hbel.size
      have e0 : wr.cell? ⟨bx, 0, none⟩ = some (.int .i64 lx) := hbox.cell 0
      have e1 : wr.cell? ⟨bx, 1, none⟩ = some (.int .i64 ly) := hbox.cell 1
      have e2 : wr.cell? ⟨bx, 2, none⟩ = some (.int .i64 hx) := hbox.cell 2
      have e3 : wr.cell? ⟨bx, 3, none⟩ = some (.int .i64 hy) := hbox.cell 3
      have hbl := hbox.lt
      by_cases hlt : k < rs.length
      · obtain ⟨c0, c1⟩ := hc k hlt
        have d0 : wr.cell? ⟨g, k * 2, none⟩ = some (.int .i64 rs[k].1) := (hbel.cell (by exact hgs)).trans c0
        have d1 : wr.cell? ⟨g, k * 2 + 1, none⟩ = some (.int .i64 rs[k].2) := (hbel.cell (by exact hgs)).trans c1
        clear c0 c1 hc
        go_wp2_with fail
        refine (has_any lx ly hx hy rs[k].1 rs[k].2 _).mono ?_
        rintro e w4 ⟨rfl, hb4⟩
        have hbox1 := (hbox.alloc (.cells #[.int .i64 rs[k].1, .int .i64 rs[k].2] 25)).below hb4 (by simp; omega)
        have hbel1 : Below w3.heap.size w3 w4 := (hbel.alloc hsz (.cells #[.int .i64 rs[k].1, .int .i64 rs[k].2] 25)).trans (hb4.mono (by simp; omega))
        clear hb4 hbox d0 d1 e0 e1 e2 e3
        by_cases hb : hasB lx ly hx hy rs[k].1 rs[k].2 = true
        · go_wp2
          go_roundw
          case rel =>
            refine ⟨k + 1, by omega, by go_num, ?_, hbox1, hbel1⟩
            show ∀ p ∈ _, _
            rw [List.take_succ_eq_append_getElem hlt]
            intro p hp
            rcases List.mem_append.1 hp with h | h
            · exact HA.out p h
            · rw [List.mem_singleton.1 h]; exact hb
          case measure => simp [intOf]; omega
        · have hb' : hasB lx ly hx hy rs[k].1 rs[k].2 = false := by simpa using hb
          clear hb
          go_wp2
          go_ret
          exact ⟨rfl, hB3.trans (hbel1.mono hB3.size)⟩
      · obtain rfl : k = rs.length := by omega
        have hall : ∀ p ∈ rs, hasB lx ly hx hy p.1 p.2 = true := by have := HA.out; rwa [List.take_length] at this
        have h4 : 4 ≤ rs.length := simple_four hrk.closed hoct HSB.out
        have hR := line_inside (by omega) hoct hall HCB.out
        have hlast := ring_last hrk.closed hrp
        have hin : (lx < rs[0].1 ∧ rs[0].1 < hx) ∧ ly < rs[0].2 ∧ rs[0].2 < hy := by
          have h1 := hasB_iff.1 (hall rs[0] (List.getElem_mem _))
          have h2 := HCB.out rs[0] (List.getElem_mem _)
          unfold OffB at h2
          omega
        have himpl := fun o ao cap B W hr => implSmartIn_any lx ly hx hy (by unfold Near; omega) (by unfold Near; omega) (by omega) (by omega) o ao cap rs B W h4 hrl hrk.near (fun i hi => octi_get hoct i hi) hlast hR hin hr
        have hnr : ∀ p ∈ rs, Near p := hrk.near
        have hspr : ∀ p ∈ rs, (-100000 < p.1 ∧ p.1 < 100000) ∧ (-100000 < p.2 ∧ p.2 < 100000) := fun p hp => by
          obtain ⟨⟨a, b⟩, c, d⟩ := hrk.near p hp
          omega
        have ho3r := own_below ho3 hbel (Nat.le_refl _)
        have HF : Hid (rs.flatMap ptE = (rs.map dblP).flatMap hE) := flat_dbl hnr
        clear hc hlt ho3 HA hall h4 hR hlast hin HSB HCB hoct hrk
        go_wp2_with fail
        refine (of_any lx ly hx hy _).mono ?_
        rintro e w4 ⟨rfl, hb4⟩
        have hB4 : Below w3.heap.size w3 w4 := hbel.trans (hb4.mono hsz)
        have ho4 := own_below ho3r hb4 (Nat.le_refl _)
        clear hb4 ho3r hbel hbox e0 e1 e2 e3
        go_wp2_with fail
        refine (specPoints_any _ _ rs _ _ (by omega) ho4).mono ?_
        rintro e w5 ⟨ao5, cap5, rfl, hp5, hb5⟩
        have hB5 : Below w3.heap.size w3 w5 := hB4.trans (hb5.mono hB4.size)
        have ho5 := own_below ho4 hb5 (Nat.le_refl _)
        clear hb5 ho4 hB4
        go_wp2_with fail
        refine (area_any _ _ rs _ _ (by omega) hnr ho5).mono ?_
        rintro e w6 ⟨rfl, hb6⟩
        have hp6 := own_below hp5 hb6 (Nat.le_refl _)
        have ho6 := own_below ho5 hb6 (Nat.le_refl _)
        have hB6 : Below w3.heap.size w3 w6 := hB5.trans (hb6.mono hB5.size)
        clear hb6 ho5 hp5 hB5
        go_wp2_with fail
        refine (himpl _ ao5 cap5 _ _ hp6).mono ?_
        rintro e w7 ⟨v7, r7, u7, rfl, hpl, hb7⟩
        have ho7 := own_below ho6 hb7 (Nat.le_refl _)
        have hB7 : Below w3.heap.size w3 w7 := hB6.trans (hb7.mono hB6.size)
        clear hb7 ho6 hp6 hB6 himpl
        obtain ⟨aoP, capP, gP, rfl, hgP, hrdP⟩ := hpl.read
        obtain ⟨rfl, hgsP, _⟩ := hgP (by simp)
        obtain ⟨a2, c2, cP, hrP⟩ := hrdP 0 (by simp)
        obtain ⟨aoQ, capQ, gQ, hvQ, hgQ, hrdQ⟩ := hrP.read
        cases hvQ
        obtain ⟨rfl, hgsQ, _⟩ := hgQ (by simp)
        obtain ⟨aoR, capR, _, cQ, hoR⟩ := hrdQ 0 (by simp)
        have cP : w7.cell? ⟨gP, 0, none⟩ = some (.slice (some ⟨gQ, 0, none⟩) 1 c2) := cP
        have cQ : w7.cell? ⟨gQ, 0, none⟩ = some (.slice aoR (rs.map dblP).length capR) := cQ
        have hoR : w7.ownsRow 0 39 2 (.slice aoR (rs.map dblP).length capR) (rs.map dblP).length ((rs.map dblP).flatMap hE) := hoR
        rw [← HF.out] at hoR
        rw [List.length_map] at cQ hoR
        simp only [List.length_cons, List.length_nil, Nat.zero_add]
        clear hgP hrdP hgQ hrdQ hrP hpl
        go_wp2_with fail
        refine (spots_any aoR capR rs _ _ hspr (by omega) hoR).mono ?_
        rintro e w8 ⟨ao8, cap8, rfl, ho8, hb8⟩
        have ho9 := own_below ho7 hb8 (Nat.le_refl _)
        have hB8 : Below w3.heap.size w3 w8 := hB7.trans (hb8.mono hB7.size)
        clear hb8 ho7 hoR cP cQ hB7
        go_wp2_with fail
        refine (area_any _ _ rs _ _ (by omega) hnr ho8).mono ?_
        rintro e w9 ⟨rfl, hb9⟩
        have ho10 := own_below ho9 hb9 (Nat.le_refl _)
        have hB9 : Below w3.heap.size w3 w9 := hB8.trans (hb9.mono hB8.size)
        clear hb9 ho9 ho8 hB8
        go_wp2_with fail
        refine (area_any _ _ rs _ _ (by omega) hnr ho10).mono ?_
        rintro e w10 ⟨rfl, hb10⟩
        have hB10 : Below w3.heap.size w3 w10 := hB9.trans (hb10.mono hB9.size)
        go_wp2_with fail
        go_ret
        exact ⟨rfl, hB3.trans (hB10.mono hB3.size)⟩
end Go.Proofs.Ytafanlbfbfbeoaa
