/- The walk of FnLineWhole. -/
import Derived.Test.YtlakfamodfgmcaaWayB
import Derived.Test.YtlakfamodfgmcaaLs
import Derived.Test.YtlakfamodfgmcaaMp
import Derived.Test.YtlakfamodfgmcaaRp
import Derived.Deep.QuietTactic
import Derived.BigQuiet
namespace Go.Proofs.Ytlakfamodfgmcaa
open Go.RowKit

set_option maxRecDepth 100000 in
set_option maxHeartbeats 2000000 in
theorem fnLineWhole_walk (a0 a1 a2 a3 a4 a5 : Int) (a6 : Option Addr) (len6 cap6 : Nat) (z6 : List Int) (w : World) (h0 : -128 ≤ a0) (h0' : a0 ≤ 127) (h1 : -128 ≤ a1) (h1' : a1 ≤ 127) (h2 : -128 ≤ a2) (h2' : a2 ≤ 127) (h3 : -128 ≤ a3) (h3' : a3 ≤ 127)
    (h4 : -128 ≤ a4) (h4' : a4 ≤ 127) (h5 : -128 ≤ a5) (h5' : a5 ≤ 127) (w6 : IsRow .u8 w a6 len6 cap6 z6) :
    Calls Try.prog 9 #[.int .i8 a0, .int .i8 a1, .int .i8 a2, .int .i8 a3, .int .i8 a4, .int .i8 a5, .slice a6 len6 cap6] w fun e w' => e = .returned (.bool true) ∧ Below w.heap.size w w' := by
  by_cases hbig : 2147483647 < (len6 : Int)
  · clear w6
    go_enter Try.func9, Try.ntmps9
    go_wp2
    go_ret
    exact ⟨rfl, Below.refl _ _⟩
  · have hbig' : (len6 : Int) ≤ 2147483647 := by omega
    clear hbig
    go_enter Try.func9, Try.ntmps9
    go_wp2_with fail
    refine (box_any a0 a1 a2 a3 h0 h0' h1 h1' h2 h2' h3 h3' _).mono ?_
    rintro e w1 ⟨lx, ly, hx, hy, rfl, hbox, hb1⟩
    have hnear := hbox.near h0 h0' h1 h1' h2 h2' h3 h3'
    clear hbox h0 h0' h1 h1' h2 h2' h3 h3'
    go_wp2_with fail
    refine (way_walk a4 a5 a6 len6 cap6 z6 h4 h4' h5 h5' _ (w6.below hb1)).mono ?_
    rintro e w2 ⟨ao2, cap2, ps, rfl, hpw, hps0, hps1, hps, ho2, hb2⟩
    have hoct : OctiL (ps.headD (0, 0)) ps := by rw [hpw, wayL_head]; exact way_octi _ _ _ (octi_self _)
    clear hpw
    have hB2 := hb1.trans (hb2.mono hb1.size)
    clear w6 h4 h4' h5 h5' hb1 hb2
    have hpl : ps.length ≤ 1000 := by omega
    obtain ⟨g, hg, hc⟩ := spots_read ho2
    obtain ⟨rfl, hgs, _⟩ := hg hps0
    clear hg hps1
    go_wp2_with fail
    go_loopw [36] (fun i wr => ∃ (k : Nat), k ≤ ps.length ∧ i = .int .i64 k ∧ Hid (∀ p ∈ ps.take k, hasB lx ly hx hy p.1 p.2 = true) ∧
        Blk wr w2.heap.size #[.int .i64 lx, .int .i64 ly, .int .i64 hx, .int .i64 hy] 27 ∧ Below w2.heap.size w2 wr)
      (fun i _ => ps.length - (intOf i).toNat)
    case atStart => exact ⟨0, Nat.zero_le _, rfl, by show ∀ p ∈ _, _; simp, Blk.new _ _ _, (Below.refl _ _).alloc (Nat.le_refl _) _⟩
    case round =>
      obtain ⟨k, hk, rfl, HA, hbox, hbel⟩ := hrel
      have hsz := hbel.size
      have e0 : wr.cell? ⟨w2.heap.size, 0, none⟩ = some (.int .i64 lx) := hbox.cell 0
      have e1 : wr.cell? ⟨w2.heap.size, 1, none⟩ = some (.int .i64 ly) := hbox.cell 1
      have e2 : wr.cell? ⟨w2.heap.size, 2, none⟩ = some (.int .i64 hx) := hbox.cell 2
      have e3 : wr.cell? ⟨w2.heap.size, 3, none⟩ = some (.int .i64 hy) := hbox.cell 3
      have hbl := hbox.lt
      by_cases hlt : k < ps.length
      · obtain ⟨c0, c1⟩ := hc k hlt
        have d0 : wr.cell? ⟨g, k * 2, none⟩ = some (.int .i64 ps[k].1) := (hbel.cell (by exact hgs)).trans c0
        have d1 : wr.cell? ⟨g, k * 2 + 1, none⟩ = some (.int .i64 ps[k].2) := (hbel.cell (by exact hgs)).trans c1
        clear c0 c1 hc
        go_wp2_with fail
        refine (has_any lx ly hx hy ps[k].1 ps[k].2 _).mono ?_
        rintro e w4 ⟨rfl, hb4⟩
        have hbox1 := (hbox.alloc (.cells #[.int .i64 ps[k].1, .int .i64 ps[k].2] 25)).below hb4 (by simp; omega)
        have hbel1 : Below w2.heap.size w2 w4 := (hbel.alloc hsz (.cells #[.int .i64 ps[k].1, .int .i64 ps[k].2] 25)).trans (hb4.mono (by simp; omega))
        clear hb4 hbox d0 d1 e0 e1 e2 e3
        by_cases hb : hasB lx ly hx hy ps[k].1 ps[k].2 = true
        · go_wp2
          go_roundw
          case rel =>
            refine ⟨k + 1, by omega, by go_num, ?_, hbox1, hbel1⟩
            show ∀ p ∈ _, _
            rw [List.take_succ_eq_append_getElem hlt]
            intro p hp
            rcases List.mem_append.1 hp with h | h
            · exact HA.out p h
            · rw [List.mem_singleton.1 h]; exact hb
          case measure => simp [intOf]; omega
        · have hb' : hasB lx ly hx hy ps[k].1 ps[k].2 = false := by simpa using hb
          clear hb
          go_wp2
          go_ret
          exact ⟨rfl, hB2.trans (hbel1.mono hB2.size)⟩
      · obtain rfl : k = ps.length := by omega
        have hall : ∀ p ∈ ps, hasB lx ly hx hy p.1 p.2 = true := by have := HA.out; rwa [List.take_length] at this
        have ho2r := own_below ho2 hbel (Nat.le_refl _)
        by_cases hsmall : ps.length < 2
        · go_wp2_with fail
          go_ret
          exact ⟨rfl, hB2.trans (hbel.mono hB2.size)⟩
        have hw : Hid (lineL false lx ly hx hy ps = [ps]) := by
          show _ = _
          cases ps with
          | nil => simp at hps0
          | cons P l =>
            have hl : l ≠ [] := fun e => by subst e; simp at hsmall
            exact line_in l P [] [] (.inl ⟨rfl, rfl⟩) hl hoct.2 (code_has (hall P (by simp))) fun Q hQ => code_has (hall Q (by simp [hQ]))
        have himpl := fun ao cap B W hr => implLine_any lx ly hx hy (by unfold Near; omega) (by unfold Near; omega) (by omega) (by omega) ao cap ps B W hpl hps (fun i hi => octi_get hoct i hi) hr
        rw [hw.out] at himpl
        clear hc hlt ho2 HA hall hw hoct
        go_wp2_with fail
        refine (of_any lx ly hx hy _).mono ?_
        rintro e w4 ⟨rfl, hb4⟩
        have hB4 : Below w2.heap.size w2 w4 := hbel.trans (hb4.mono hsz)
        have ho4 := own_below ho2r hb4 (Nat.le_refl _)
        clear hb4 ho2r hbel hbox e0 e1 e2 e3
        go_wp2_with fail
        refine (specPoints_any _ _ ps _ _ (by omega) ho4).mono ?_
        rintro e w5 ⟨ao5, cap5, rfl, hp5, hb5⟩
        have hB5 : Below w2.heap.size w2 w5 := hB4.trans (hb5.mono hB4.size)
        have ho5 := own_below ho4 hb5 (Nat.le_refl _)
        clear hb5 ho4 hB4
        go_wp2_with fail
        refine (himpl ao5 cap5 _ _ hp5).mono ?_
        rintro e w6 ⟨v6, ys, rfl, hys, hr6, hb6, _, _⟩
        have hB6 : Below w2.heap.size w2 w6 := hB5.trans (hb6.mono hB5.size)
        have ho6 := own_below ho5 hb6 (Nat.le_refl _)
        obtain ⟨y, rfl⟩ : ∃ y, ys = [y] := by
          cases ys with
          | nil => simp at hys
          | cons y ys =>
            cases ys with
            | nil => exact ⟨y, rfl⟩
            | cons z zs => simp at hys
        have hy2 : y.2 = ps := by simpa using hys
        obtain ⟨ao6, cap6', g6, rfl, hg6, hrd⟩ := hr6.read
        obtain ⟨rfl, hgs6, _⟩ := hg6 (by simp)
        obtain ⟨aq, cq, hqv, c60, hq60⟩ := hrd 0 (by simp)
        have c6 : w6.cell? ⟨g6, 0, none⟩ = some (.slice aq ps.length cq) := by rw [← hy2]; exact c60
        have hq6 : w6.ownsRow 0 38 2 (.slice aq ps.length cq) ps.length (ps.flatMap ptE) := by rw [← hy2]; exact hq60
        clear hqv c60 hq60 hb6 ho5 hp5 hB5 himpl hys hy2 hr6 hg6 hrd
        simp only [List.length_cons, List.length_nil, Nat.zero_add]
        obtain ⟨gq, hgq, hcq⟩ := pts_read hq6
        obtain ⟨rfl, hgsq, _⟩ := hgq hps0
        clear hgq
        go_wp2_with fail
        refine (specPoints_any _ _ ps _ _ (by omega) ho6).mono ?_
        rintro e w7 ⟨ao7, cap7, rfl, hp7, hb7⟩
        have hB7 : Below w2.heap.size w2 w7 := hB6.trans (hb7.mono hB6.size)
        have hB8 := hB2.trans (hB7.mono hB2.size)
        have c7 : w7.cell? ⟨g6, 0, none⟩ = some (.slice (some ⟨gq, 0, none⟩) ps.length cq) := (hb7.cell (by exact hgs6)).trans c6
        have hcq7 : ∀ k (hk : k < ps.length), w7.cell? ⟨gq, k * 2, none⟩ = some (.float .f64 (F ps[k].1)) ∧ w7.cell? ⟨gq, k * 2 + 1, none⟩ = some (.float .f64 (F ps[k].2)) := fun k hk =>
          ⟨(hb7.cell (by exact hgsq)).trans (hcq k hk).1, (hb7.cell (by exact hgsq)).trans (hcq k hk).2⟩
        have hgs67 : g6 < w7.heap.size := Nat.lt_of_lt_of_le hgs6 hb7.size
        have hgsq7 : gq < w7.heap.size := Nat.lt_of_lt_of_le hgsq hb7.size
        clear hb7 ho6 hq6 hB6 hB7 hB2 c6 hcq hgs6 hgsq
        obtain ⟨g7, hg7, hc7⟩ := pts_read hp7
        obtain ⟨rfl, hgs7, _⟩ := hg7 hps0
        clear hg7
        go_wp2_with fail
        go_loopw [68] (fun i wr => ∃ (k : Nat), k ≤ ps.length ∧ i = .int .i64 k ∧ Below w7.heap.size w7 wr)
          (fun i _ => ps.length - (intOf i).toNat)
        case atStart => exact ⟨0, Nat.zero_le _, rfl, Below.refl _ _⟩
        case round =>
          obtain ⟨k, hk, rfl, hbel⟩ := hrel
          by_cases hlt : k < ps.length
          · obtain ⟨c0, c1⟩ := hcq7 k hlt
            obtain ⟨c2, c3⟩ := hc7 k hlt
            have d0 : wr.cell? ⟨gq, k * 2, none⟩ = some (.float .f64 (F ps[k].1)) := (hbel.cell (by exact hgsq7)).trans c0
            have d1 : wr.cell? ⟨gq, k * 2 + 1, none⟩ = some (.float .f64 (F ps[k].2)) := (hbel.cell (by exact hgsq7)).trans c1
            have d2 : wr.cell? ⟨g7, k * 2, none⟩ = some (.float .f64 (F ps[k].1)) := (hbel.cell (by exact hgs7)).trans c2
            have d3 : wr.cell? ⟨g7, k * 2 + 1, none⟩ = some (.float .f64 (F ps[k].2)) := (hbel.cell (by exact hgs7)).trans c3
            have d4 : wr.cell? ⟨g6, 0, none⟩ = some (.slice (some ⟨gq, 0, none⟩) ps.length cq) := (hbel.cell (by exact hgs67)).trans c7
            have hs := (hps _ (List.getElem_mem hlt)).sm
            have hgw6 : gq < wr.heap.size := Nat.lt_of_lt_of_le hgsq7 hbel.size
            have hgw7 : g7 < wr.heap.size := Nat.lt_of_lt_of_le hgs7 hbel.size
            have hgw8 : g6 < wr.heap.size := Nat.lt_of_lt_of_le hgs67 hbel.size
            clear c0 c1 c2 c3 hcq7 hc7 c7
            go_wp2_with fail
            go_quiet (fail)
            go_wp2
            go_roundw
            case rel => exact ⟨k + 1, by omega, by go_num, below_drewN (hbel.alloc hbel.size _) _⟩
            case measure => simp [intOf]; omega
          · obtain rfl : k = ps.length := by omega
            go_wp2
            go_ret
            exact ⟨rfl, hB8.trans (hbel.mono hB8.size)⟩
end Go.Proofs.Ytlakfamodfgmcaa
