/- The walk of FnRingClosed. -/
import Derived.Test.YtlakfamodfgmcaaWayB
import Derived.Test.YtlakfamodfgmcaaRq
import Derived.Test.YtlakfamodfgmcaaMp
import Derived.Deep.QuietTactic
import Derived.BigQuiet
namespace Go.Proofs.Ytlakfamodfgmcaa
open Go.RowKit

theorem below_step {wr W wA : World} (h : Below wr.heap.size wr W) (hA : Below W.heap.size W wA) : Below wr.heap.size wr wA := h.trans (hA.mono h.size)

set_option maxRecDepth 100000 in
set_option maxHeartbeats 2000000 in
theorem fnRingClosed_walk (a0 a1 a2 a3 a4 a5 : Int) (a6 : Option Addr) (len6 cap6 : Nat) (z6 : List Int) (w : World) (h0 : -128 ≤ a0) (h0' : a0 ≤ 127) (h1 : -128 ≤ a1) (h1' : a1 ≤ 127) (h2 : -128 ≤ a2) (h2' : a2 ≤ 127) (h3 : -128 ≤ a3) (h3' : a3 ≤ 127)
    (h4 : -128 ≤ a4) (h4' : a4 ≤ 127) (h5 : -128 ≤ a5) (h5' : a5 ≤ 127) (w6 : IsRow .u8 w a6 len6 cap6 z6) :
    Calls Try.prog 7 #[.int .i8 a0, .int .i8 a1, .int .i8 a2, .int .i8 a3, .int .i8 a4, .int .i8 a5, .slice a6 len6 cap6] w fun e w' => e = .returned (.bool true) ∧ Below w.heap.size w w' := by
  by_cases hbig : 2147483647 < (len6 : Int)
  · clear w6
    go_enter Try.func7, Try.ntmps7
    go_wp2
    go_ret
    exact ⟨rfl, Below.refl _ _⟩
  · have hbig' : (len6 : Int) ≤ 2147483647 := by omega
    clear hbig
    go_enter Try.func7, Try.ntmps7
    go_wp2_with fail
    refine (box_any a0 a1 a2 a3 h0 h0' h1 h1' h2 h2' h3 h3' _).mono ?_
    rintro e w1 ⟨lx, ly, hx, hy, rfl, hbox, hb1⟩
    have hnear := hbox.near h0 h0' h1 h1' h2 h2' h3 h3'
    clear hbox h0 h0' h1 h1' h2 h2' h3 h3'
    go_wp2_with fail
    refine (way_walk a4 a5 a6 len6 cap6 z6 h4 h4' h5 h5' _ (w6.below hb1)).mono ?_
    rintro e w2 ⟨ao2, cap2, ps, rfl, hpw, hps0, hps1, hps, ho2, hb2⟩
    have hring := closed_ring hps0 (by omega) hps (by rw [hpw, wayL_head]; exact way_octi _ _ _ (octi_self _))
    clear hpw
    have hB2 := hb1.trans (hb2.mono hb1.size)
    clear w6 h4 h4' h5 h5' hb1 hb2
    go_wp2_with fail
    refine (closed_any ao2 cap2 ps _ _ hps0 (by omega) ho2).mono ?_
    rintro e w3 ⟨ao3, cap3, rfl, ho3, hb3⟩
    have hB3 := hB2.trans (hb3.mono hB2.size)
    clear hb3 ho2 hB2 hps hps0 hps1
    generalize closedL ps = rs at *
    obtain ⟨hrk, hrp⟩ := hring
    have hrl := hrk.len
    obtain ⟨g, hg, hc⟩ := spots_read ho3
    obtain ⟨rfl, hgs, _⟩ := hg hrp
    clear hg
    have smb : (Sm lx ∧ Sm ly) ∧ (Sm hx ∧ Sm hy) := by unfold Sm; omega
    obtain ⟨hgn, _, hgc⟩ := ring_facts (lx := lx) (ly := ly) (hx := hx) (hy := hy) hrk.near hrk.octi
    have hgl : (ringL lx ly hx hy rs).length ≤ 100000000 := by have := ring_len lx ly hx hy rs; omega
    have himpl := fun ao cap B W hr => implRing_any lx ly hx hy (by unfold Near; omega) (by unfold Near; omega) (by omega) (by omega) ao cap rs B W hrk hr
    generalize ringL lx ly hx hy rs = qs at *
    go_wp2_with fail
    refine (of_any lx ly hx hy _).mono ?_
    rintro e w4 ⟨rfl, hb4⟩
    have hbox4 := (Blk.new w3 #[.int .i64 lx, .int .i64 ly, .int .i64 hx, .int .i64 hy] 27).below hb4 (by simp)
    have hB4 : Below w3.heap.size w3 w4 := ((Below.refl _ _).alloc (Nat.le_refl _) _).trans (hb4.mono (by simp))
    have ho4 := own_below (ho3.alloc (.cells #[.int .i64 lx, .int .i64 ly, .int .i64 hx, .int .i64 hy] 27)) hb4 (Nat.le_refl _)
    clear hb4 ho3 hc
    go_wp2_with fail
    refine (specPoints_any _ _ rs _ _ (by omega) ho4).mono ?_
    rintro e w5 ⟨ao5, cap5, rfl, hp5, hb5⟩
    have hbox5 := hbox4.below hb5 hbox4.lt
    have hB5 : Below w3.heap.size w3 w5 := hB4.trans (hb5.mono hB4.size)
    clear hb5 ho4 hB4 hbox4
    go_wp2_with fail
    refine (himpl ao5 cap5 _ _ hp5).mono ?_
    rintro e w6 ⟨ao6, cap6', rfl, hp6, hb6⟩
    have hbox6 := hbox5.below hb6 hbox5.lt
    have hB6 : Below w3.heap.size w3 w6 := hB5.trans (hb6.mono hB5.size)
    clear hb6 hp5 hB5 himpl hbox5
    have hB7 : Below w.heap.size w w6 := hB3.trans (hB6.mono hB3.size)
    have hsz3 := hB3.size
    by_cases hz : qs = []
    · subst hz
      obtain ⟨wr, rfl⟩ : ∃ wr, wr = w6 := ⟨_, rfl⟩
      have e0 : wr.cell? ⟨w3.heap.size, 0, none⟩ = some (.int .i64 lx) := hbox6.cell 0
      have e1 : wr.cell? ⟨w3.heap.size, 1, none⟩ = some (.int .i64 ly) := hbox6.cell 1
      have e2 : wr.cell? ⟨w3.heap.size, 2, none⟩ = some (.int .i64 hx) := hbox6.cell 2
      have e3 : wr.cell? ⟨w3.heap.size, 3, none⟩ = some (.int .i64 hy) := hbox6.cell 3
      clear hp6 hgc hgn hrk hrp hrl
      go_wp2_with fail
      have HS : Hid (∀ W, Below wr.heap.size wr W → (W.cell? ⟨w3.heap.size, 0, none⟩ = some (.int .i64 lx) ∧ W.cell? ⟨w3.heap.size, 1, none⟩ = some (.int .i64 ly) ∧ W.cell? ⟨w3.heap.size, 2, none⟩ = some (.int .i64 hx) ∧ W.cell? ⟨w3.heap.size, 3, none⟩ = some (.int .i64 hy))) :=
        fun W hb => ⟨cell_later hb e0, cell_later hb e1, cell_later hb e2, cell_later hb e3⟩
      have hlow : ∀ p ∈ [(lx, ly)], Sm p.1 ∧ Sm p.2 := fun p hp => by simp at hp; subst hp; exact smb.1
      have hin : [(lx, ly)].filter (fun p => hasB lx ly hx hy p.1 p.2) = [(lx, ly)] := by simp [hasB]; omega
      have HI : Hid ([(lx, ly)].filter (fun p => hasB lx ly hx hy p.1 p.2) = [(lx, ly)]) := hin
      clear hin
      go_region_held3 (fun w' => w'.cell? ⟨w3.heap.size, 0, none⟩ = some (.int .i64 lx) ∧ w'.cell? ⟨w3.heap.size, 1, none⟩ = some (.int .i64 ly) ∧ w'.cell? ⟨w3.heap.size, 2, none⟩ = some (.int .i64 hx) ∧ w'.cell? ⟨w3.heap.size, 3, none⟩ = some (.int .i64 hy))
        ((refine HS.out _ ?_; repeat first | assumption | exact Below.refl _ _ | refine Below.drew ?_ | refine below_alloc ?_ _ (Nat.le_refl _)))
        (first
          | (go_at_call 19; refine (of_any lx ly hx hy _).mono ?_; rintro e wA ⟨rfl, hbA⟩; have hBA : Below wr.heap.size wr wA := below_step (by repeat first | assumption | exact Below.refl _ _ | refine Below.drew ?_ | refine below_alloc ?_ _ (Nat.le_refl _)) hbA)
          | (go_at_call 20; refine (specPoints_any _ _ [(lx, ly)] 0 _ (by simp) (by first | exact own_new _ 0 (Nat.zero_le _) 25 2 1 [_, _] rfl (by omega) | exact own_below (own_new _ 0 (Nat.zero_le _) 25 2 1 [_, _] rfl (by omega)).drew hbA (by simp))).mono ?_; rintro e wB ⟨aoB, capB, rfl, hoB, hbB⟩; have hBB : Below wr.heap.size wr wB := below_step (by repeat first | assumption | exact Below.refl _ _ | refine Below.drew ?_ | refine below_alloc ?_ _ (Nat.le_refl _)) hbB)
          | (go_at_call 18; refine (implPoints_any lx ly hx hy smb.1.1 smb.1.2 smb.2.1 smb.2.2 _ _ [(lx, ly)] _ _ hlow (by simp) hoB).mono ?_; rw [HI.out]; rintro e wC ⟨aoC, capC, rfl, hoC, hbC⟩; have hBC : Below wr.heap.size wr wC := below_step (by repeat first | assumption | exact Below.refl _ _ | refine Below.drew ?_ | refine below_alloc ?_ _ (Nat.le_refl _)) hbC))
      all_goals
        go_wp2
        go_ret
        exact ⟨rfl, hB7.trans (hBC.mono hB7.size)⟩
    · have hqp : 0 < qs.length := List.length_pos_iff.2 hz
      obtain ⟨g6, hg6, hc6⟩ := pts_read hp6
      obtain ⟨rfl, hgs6, _⟩ := hg6 hqp
      have hfl : qs[qs.length - 1]'(by omega) = qs[0] := by
        have e1 : qs.head? = some qs[0] := by rw [List.head?_eq_getElem?, List.getElem?_eq_getElem hqp]
        have e2 : qs.getLast? = some (qs[qs.length - 1]'(by omega)) := by rw [List.getLast?_eq_getElem?, List.getElem?_eq_getElem]
        rw [e1, e2] at hgc
        exact (Option.some.inj hgc).symm
      obtain ⟨c0, c1⟩ := hc6 0 hqp
      have f1 := hc6 (qs.length - 1) (by omega)
      rw [hfl] at f1
      obtain ⟨d0, d1⟩ := f1
      have hs := (hgn _ (List.getElem_mem hqp)).sm
      obtain ⟨f, hf⟩ : ∃ f, f = qs[0] := ⟨_, rfl⟩
      rw [← hf] at c0 c1 d0 d1 hs
      clear hf hfl hgc hc6 hg6 hp6
      go_wp2_with fail
      go_quiet (fail)
      go_wp2
      go_ret
      exact ⟨rfl, below_drewN hB7 _⟩
end Go.Proofs.Ytlakfamodfgmcaa
