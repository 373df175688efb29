/- The walk of FnExactPoints. -/
import Derived.Test.YtlakfamodfgmcaaWayB
import Derived.Test.YtlakfamodfgmcaaMp
import Derived.Test.YtlakfamodfgmcaaSp
import Derived.Deep.QuietTactic
import Derived.BigQuiet
namespace Go.Proofs.Ytlakfamodfgmcaa
open Go.RowKit

theorem below_step {wr W wA : World} (h : Below wr.heap.size wr W) (hA : Below W.heap.size W wA) : Below wr.heap.size wr wA := h.trans (hA.mono h.size)

set_option maxRecDepth 100000 in
set_option maxHeartbeats 2000000 in
theorem fnExactPoints_walk (a0 a1 a2 a3 a4 a5 : Int) (a6 : Option Addr) (len6 cap6 : Nat) (z6 : List Int) (w : World) (h0 : -128 ≤ a0) (h0' : a0 ≤ 127) (h1 : -128 ≤ a1) (h1' : a1 ≤ 127) (h2 : -128 ≤ a2) (h2' : a2 ≤ 127) (h3 : -128 ≤ a3) (h3' : a3 ≤ 127)
    (h4 : -128 ≤ a4) (h4' : a4 ≤ 127) (h5 : -128 ≤ a5) (h5' : a5 ≤ 127) (w6 : IsRow .u8 w a6 len6 cap6 z6) :
    Calls Try.prog 3 #[.int .i8 a0, .int .i8 a1, .int .i8 a2, .int .i8 a3, .int .i8 a4, .int .i8 a5, .slice a6 len6 cap6] w fun e w' => e = .returned (.bool true) ∧ Below w.heap.size w w' := by
  by_cases hbig : 2147483647 < (len6 : Int)
  · clear w6
    go_enter Try.func3, Try.ntmps3
    go_wp2
    go_ret
    exact ⟨rfl, Below.refl _ _⟩
  · have hbig' : (len6 : Int) ≤ 2147483647 := by omega
    clear hbig
    obtain ⟨i0, hi, hz0, hz1, hz2⟩ := info_parts Try.info25
    go_enter Try.func3, Try.ntmps3
    go_wp2_with fail
    refine (box_any a0 a1 a2 a3 h0 h0' h1 h1' h2 h2' h3 h3' _).mono ?_
    rintro e w1 ⟨lx, ly, hx, hy, rfl, hbox, hb1⟩
    have hnear := hbox.near h0 h0' h1 h1' h2 h2' h3 h3'
    clear hbox h0 h0' h1 h1' h2 h2' h3 h3'
    go_wp2_with fail
    refine (way_walk a4 a5 a6 len6 cap6 z6 h4 h4' h5 h5' _ (w6.below hb1)).mono ?_
    rintro e w2 ⟨ao2, cap2, ps, rfl, hpw, hps0, hps1, hps, ho2, hb2⟩
    clear hpw
    have hB2 := hb1.trans (hb2.mono hb1.size)
    clear w6 h4 h4' h5 h5' hb1 hb2
    have hsz2 := hB2.size
    obtain ⟨g, hg, hc⟩ := spots_read ho2
    obtain ⟨rfl, hgs, _⟩ := hg hps0
    go_wp2_with fail
    go_loopw [17, 38] (fun v i wr => ∃ (k : Nat) (ao' : Option Addr) (cap' : Nat), k ≤ ps.length ∧ i = .int .i64 k ∧ v = .slice ao' ((ps.take k).filter fun p => hasB lx ly hx hy p.1 p.2).length cap' ∧
        wr.ownsRow (w2.heap.size + 1) 25 2 (.slice ao' ((ps.take k).filter fun p => hasB lx ly hx hy p.1 p.2).length cap') ((ps.take k).filter fun p => hasB lx ly hx hy p.1 p.2).length (((ps.take k).filter fun p => hasB lx ly hx hy p.1 p.2).flatMap spotE) ∧
        Blk wr w2.heap.size #[.int .i64 lx, .int .i64 ly, .int .i64 hx, .int .i64 hy] 27 ∧ Below w2.heap.size w2 wr)
      (fun _ i _ => ps.length - (intOf i).toNat)
    case atStart =>
      refine ⟨0, _, _, Nat.zero_le _, rfl, rfl, ?_, (Blk.new _ _ _).alloc _, ((Below.refl _ _).alloc (Nat.le_refl _) _).alloc (by simp) _⟩
      have h := own_new (w2.alloc (.cells #[.int .i64 lx, .int .i64 ly, .int .i64 hx, .int .i64 hy] 27)) (w2.heap.size + 1) (by simp) 25 2 0 [] rfl (by omega)
      simp only [World.size_alloc] at h
      exact h
    case round =>
      obtain ⟨k, ao', cap', hk, rfl, rfl, hown, hbox, hbel⟩ := hrel
      have hsz := hbel.size
      have hlen : ((ps.take k).filter fun p => hasB lx ly hx hy p.1 p.2).length ≤ k := Nat.le_trans (List.length_filter_le _ _) (by rw [List.length_take]; omega)
      have e0 : wr.cell? ⟨w2.heap.size, 0, none⟩ = some (.int .i64 lx) := hbox.cell 0
      have e1 : wr.cell? ⟨w2.heap.size, 1, none⟩ = some (.int .i64 ly) := hbox.cell 1
      have e2 : wr.cell? ⟨w2.heap.size, 2, none⟩ = some (.int .i64 hx) := hbox.cell 2
      have e3 : wr.cell? ⟨w2.heap.size, 3, none⟩ = some (.int .i64 hy) := hbox.cell 3
      have hbl := hbox.lt
      by_cases hlt : k < ps.length
      · obtain ⟨c0, c1⟩ := hc k hlt
        have d0 : wr.cell? ⟨g, k * 2, none⟩ = some (.int .i64 ps[k].1) := (hbel.cell (by exact hgs)).trans c0
        have d1 : wr.cell? ⟨g, k * 2 + 1, none⟩ = some (.int .i64 ps[k].2) := (hbel.cell (by exact hgs)).trans c1
        clear c0 c1 hc
        have HT : Hid ((ps.take (k + 1)).filter (fun p => hasB lx ly hx hy p.1 p.2) = (ps.take k).filter (fun p => hasB lx ly hx hy p.1 p.2) ++ [ps[k]].filter (fun p => hasB lx ly hx hy p.1 p.2)) := by
          rw [List.take_succ_eq_append_getElem hlt, List.filter_append]; exact rfl
        generalize (ps.take k).filter (fun p => hasB lx ly hx hy p.1 p.2) = qs at *
        go_wp2_with fail
        refine (has_any lx ly hx hy ps[k].1 ps[k].2 _).mono ?_
        rintro e w3 ⟨rfl, hb3⟩
        have hloop := (Blk.new wr #[.int .i64 ps[k].1, .int .i64 ps[k].2] 25).below hb3 (by simp)
        have l0 : w3.cell? ⟨wr.heap.size, 0, none⟩ = some (.int .i64 ps[k].1) := hloop.cell 0
        have l1 : w3.cell? ⟨wr.heap.size, 1, none⟩ = some (.int .i64 ps[k].2) := hloop.cell 1
        have hown1 := own_below (hown.alloc (.cells #[.int .i64 ps[k].1, .int .i64 ps[k].2] 25)) hb3 (Nat.le_refl _)
        have hbox1 := (hbox.alloc (.cells #[.int .i64 ps[k].1, .int .i64 ps[k].2] 25)).below hb3 (by simp; omega)
        have hbel1 : Below w2.heap.size w2 w3 := (hbel.alloc hsz (.cells #[.int .i64 ps[k].1, .int .i64 ps[k].2] 25)).trans (hb3.mono (by simp; omega))
        have hsz1 : w2.heap.size + 1 ≤ w3.heap.size := by have := hb3.size; simp at this; omega
        clear hb3 hown hbox hloop d0 d1 e0 e1 e2 e3
        by_cases hb : hasB lx ly hx hy ps[k].1 ps[k].2 = true
        · have hT2 := HT.out
          rw [List.filter_cons_of_pos (by exact hb), List.filter_nil] at hT2
          have HT3 : Hid _ := hT2
          clear hT2 HT
          go_wp2_with (at_builtin; refine wpList_push rfl _ _ 29 rfl 25 i0 _ 2 16 Try.underlying29 hi hz0 hz1 hz2 rfl (by decide) (by decide) w2 _ (w2.heap.size + 1) _ qs.length _ rfl hown1 w2.heap.size hbel1 (by omega) (by omega) (by omega) [_, _] _ _ (by simp) 1 rfl rfl (by simp [Value.oneCell']) ?_)
          intro g' cap'' w4 hown2 hbel2 _ hgr _ _
          have hbox2 := (hbox1.alloc (.cells #[.int .i64 ps[k].1, .int .i64 ps[k].2] 25)).grown hgr (fun e => by have := (hown1.lt _ e.symm).1; omega)
          have hown3 : w4.ownsRow (w2.heap.size + 1) 25 2 (.slice (some ⟨g', 0, none⟩) (qs.length + 1) cap'') (qs.length + 1) ((qs ++ [ps[k]]).flatMap spotE) := by rw [List.flatMap_append]; simpa [spotE] using hown2
          clear hown2 hown1 hbox1 l0 l1 hgr
          go_wp2
          go_roundw
          case rel => exact ⟨k + 1, _, _, by omega, by go_num, by rw [HT3.out, List.length_append]; rfl, by rw [HT3.out, List.length_append]; exact hown3, hbox2, hbel2⟩
          case measure => simp [intOf]; omega
        · have hb' : hasB lx ly hx hy ps[k].1 ps[k].2 = false := by simpa using hb
          have hT2 := HT.out
          rw [List.filter_cons_of_neg (by simpa using hb'), List.filter_nil, List.append_nil] at hT2
          have HT3 : Hid _ := hT2
          clear hT2 HT hb
          go_wp2
          go_roundw
          case rel => exact ⟨k + 1, _, _, by omega, by go_num, by rw [HT3.out], by rw [HT3.out]; exact hown1, hbox1, hbel1⟩
          case measure => simp [intOf]; omega
      · obtain rfl : k = ps.length := by omega
        have ho2r := own_below ho2 hbel (Nat.le_refl _)
        rw [List.take_length] at hown hlen
        clear hc hlt ho2 i0 hi hz0 hz1 hz2
        rw [List.take_length]
        generalize hqs : ps.filter (fun p => hasB lx ly hx hy p.1 p.2) = qs at *
        have HQ : Hid (ps.filter (fun p => hasB lx ly hx hy p.1 p.2) = qs) := hqs
        clear hqs
        have hqm : ∀ p ∈ qs, Near p := fun p hp => by rw [← HQ.out] at hp; exact hps p (List.mem_filter.1 hp).1
        have smb : (Sm lx ∧ Sm ly) ∧ (Sm hx ∧ Sm hy) := by unfold Sm; omega
        go_wp2_with fail
        refine (of_any lx ly hx hy _).mono ?_
        rintro e w3 ⟨rfl, hb3⟩
        have hbox3 := hbox.below hb3 hbl
        have hB3 : Below w2.heap.size w2 w3 := hbel.trans (hb3.mono hsz)
        have hor3 := own_below hown hb3 (Nat.le_refl _)
        have hop3 := own_below ho2r hb3 (Nat.le_refl _)
        clear hb3 hbox hown ho2r hbel hsz e0 e1 e2 e3
        go_wp2_with fail
        refine (specPoints_any _ _ ps _ _ (by omega) hop3).mono ?_
        rintro e w4 ⟨ao4, cap4, rfl, ho4, hb4⟩
        have hbox4 := hbox3.below hb4 hbox3.lt
        have hB4 : Below w2.heap.size w2 w4 := hB3.trans (hb4.mono hB3.size)
        have hor4 := own_below hor3 hb4 (Nat.le_refl _)
        clear hb4 hbox3 hor3 hop3 hB3
        go_wp2_with fail
        refine (implPoints_any lx ly hx hy smb.1.1 smb.1.2 smb.2.1 smb.2.2 ao4 cap4 ps _ _ (fun p hp => (hps p hp).sm) (by omega) ho4).mono ?_
        rw [HQ.out]
        rintro e w5 ⟨ao5, cap5, rfl, ho5, hb5⟩
        have hbox5 := hbox4.below hb5 hbox4.lt
        have hB5 : Below w2.heap.size w2 w5 := hB4.trans (hb5.mono hB4.size)
        have hor5 := own_below hor4 hb5 (Nat.le_refl _)
        clear hb5 hbox4 hor4 ho4 hB4
        go_wp2_with fail
        refine (spots_any ao5 cap5 qs _ _ (fun p hp => by have := hqm p hp; unfold Near at this; omega) (by omega) ho5).mono ?_
        rintro e w6 ⟨ao6, cap6', rfl, ho6, hb6⟩
        have hbox6 := hbox5.below hb6 hbox5.lt
        have hB6 : Below w2.heap.size w2 w6 := hB5.trans (hb6.mono hB5.size)
        have hor6 := own_below hor5 hb6 (Nat.le_refl _)
        clear hb6 hbox5 hor5 ho5 hB5 HQ hps
        go_wp2_with fail
        obtain ⟨ga, hga, hca⟩ := spots_read ho6
        obtain ⟨gb, hgb, hcb⟩ := spots_read hor6
        have hsz6 := hB6.size
        go_loopw [70] (fun i wr => ∃ k : Nat, k ≤ qs.length ∧ i = .int .i64 k ∧ Below w6.heap.size w6 wr) (fun i _ => qs.length - (intOf i).toNat)
        case atStart => exact ⟨0, Nat.zero_le _, rfl, Below.refl _ _⟩
        case round =>
          obtain ⟨k, hk, rfl, hbel⟩ := hrel
          by_cases hlt : k < qs.length
          · obtain ⟨rfl, hla, _⟩ := hga (by omega)
            obtain ⟨rfl, hlb, _⟩ := hgb (by omega)
            have d0 : wr.cell? ⟨ga, k * 2, none⟩ = some (.int .i64 qs[k].1) := (hbel.cell (by exact hla)).trans (hca k hlt).1
            have d1 : wr.cell? ⟨ga, k * 2 + 1, none⟩ = some (.int .i64 qs[k].2) := (hbel.cell (by exact hla)).trans (hca k hlt).2
            have e0 : wr.cell? ⟨gb, k * 2, none⟩ = some (.int .i64 qs[k].1) := (hbel.cell (by exact hlb)).trans (hcb k hlt).1
            have e1 : wr.cell? ⟨gb, k * 2 + 1, none⟩ = some (.int .i64 qs[k].2) := (hbel.cell (by exact hlb)).trans (hcb k hlt).2
            have hk0 : (0 : Int) ≤ (k : Int) := by omega
            have hk1 : (k : Int) < (qs.length : Int) := by omega
            clear hca hcb hga hgb
            go_wp2_with fail
            go_quiet (fail)
            go_wp2_with fail
            go_roundw
            case rel => exact ⟨k + 1, by omega, by go_num, below_drewN hbel _⟩
            case measure => simp [intOf]; omega
          · have hbox7 := hbox6.below hbel hbox6.lt
            have hB7 : Below w2.heap.size w2 wr := hB6.trans (hbel.mono hsz6)
            clear hca hcb hga hgb ho6 hor6 hbel hbox6 hB6 hg hgs hsz6 hps0 hps1 hlen hqm
            have e0 : wr.cell? ⟨w2.heap.size, 0, none⟩ = some (.int .i64 lx) := hbox7.cell 0
            have e1 : wr.cell? ⟨w2.heap.size, 1, none⟩ = some (.int .i64 ly) := hbox7.cell 1
            have e2 : wr.cell? ⟨w2.heap.size, 2, none⟩ = some (.int .i64 hx) := hbox7.cell 2
            have e3 : wr.cell? ⟨w2.heap.size, 3, none⟩ = some (.int .i64 hy) := hbox7.cell 3
            go_wp2_with fail
            have HS : Hid (∀ W, Below wr.heap.size wr W → (W.cell? ⟨w2.heap.size, 0, none⟩ = some (.int .i64 lx) ∧ W.cell? ⟨w2.heap.size, 1, none⟩ = some (.int .i64 ly) ∧ W.cell? ⟨w2.heap.size, 2, none⟩ = some (.int .i64 hx) ∧ W.cell? ⟨w2.heap.size, 3, none⟩ = some (.int .i64 hy))) :=
              fun W hb => ⟨cell_later hb e0, cell_later hb e1, cell_later hb e2, cell_later hb e3⟩
            have hlow : ∀ p ∈ [(lx, ly)], Sm p.1 ∧ Sm p.2 := fun p hp => by simp at hp; subst hp; exact smb.1
            have hin : [(lx, ly)].filter (fun p => hasB lx ly hx hy p.1 p.2) = [(lx, ly)] := by simp [hasB]; omega
            have HI : Hid ([(lx, ly)].filter (fun p => hasB lx ly hx hy p.1 p.2) = [(lx, ly)]) := hin
            clear hin
            go_region_held3 (fun w' => w'.cell? ⟨w2.heap.size, 0, none⟩ = some (.int .i64 lx) ∧ w'.cell? ⟨w2.heap.size, 1, none⟩ = some (.int .i64 ly) ∧ w'.cell? ⟨w2.heap.size, 2, none⟩ = some (.int .i64 hx) ∧ w'.cell? ⟨w2.heap.size, 3, none⟩ = some (.int .i64 hy))
              ((refine HS.out _ ?_; repeat first | assumption | exact Below.refl _ _ | refine Below.drew ?_ | refine below_alloc ?_ _ (Nat.le_refl _)))
              (first
                | (go_at_call 19; refine (of_any lx ly hx hy _).mono ?_; rintro e wA ⟨rfl, hbA⟩; have hBA : Below wr.heap.size wr wA := below_step (by repeat first | assumption | exact Below.refl _ _ | refine Below.drew ?_ | refine below_alloc ?_ _ (Nat.le_refl _)) hbA)
                | (go_at_call 20; refine (specPoints_any _ _ [(lx, ly)] 0 _ (by simp) (by first | exact own_new _ 0 (Nat.zero_le _) 25 2 1 [_, _] rfl (by omega) | exact own_below (own_new _ 0 (Nat.zero_le _) 25 2 1 [_, _] rfl (by omega)).drew hbA (by simp))).mono ?_; rintro e wB ⟨aoB, capB, rfl, hoB, hbB⟩; have hBB : Below wr.heap.size wr wB := below_step (by repeat first | assumption | exact Below.refl _ _ | refine Below.drew ?_ | refine below_alloc ?_ _ (Nat.le_refl _)) hbB)
                | (go_at_call 18; refine (implPoints_any lx ly hx hy smb.1.1 smb.1.2 smb.2.1 smb.2.2 _ _ [(lx, ly)] _ _ hlow (by simp) hoB).mono ?_; rw [HI.out]; rintro e wC ⟨aoC, capC, rfl, hoC, hbC⟩; have hBC : Below wr.heap.size wr wC := below_step (by repeat first | assumption | exact Below.refl _ _ | refine Below.drew ?_ | refine below_alloc ?_ _ (Nat.le_refl _)) hbC))
            all_goals
              go_wp2
              go_ret
              exact ⟨rfl, hB2.trans ((hB7.trans (hBC.mono hB7.size)).mono hsz2)⟩
end Go.Proofs.Ytlakfamodfgmcaa
