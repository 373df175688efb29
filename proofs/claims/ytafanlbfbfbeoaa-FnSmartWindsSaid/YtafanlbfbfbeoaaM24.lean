/- What the proofs over smartclip lean on, part 25 of 48. -/
import Derived.Test.YtafanlbfbfbeoaaM06
import Derived.Deep.RegionHeld3
import Derived.Test.YtafanlbfbfbeoaaM23
import Derived.IntWalk
import Derived.StillTailTactics
import Derived.Deep.DeepCutAuto

/- A ring within a box, clipped as open lines. -/
namespace Go.Proofs.Ytafanlbfbfbeoaa
open Go.RowKit

theorem below_step {wr W wA : World} (h : Below wr.heap.size wr W) (hA : Below W.heap.size W wA) : Below wr.heap.size wr wA := h.trans (hA.mono h.size)

theorem one_row {xs : List (Value × List (Int × Int))} {ps : List (Int × Int)} (h : xs.map Prod.snd = [ps]) : ∃ u, xs = [(u, ps)] := by
  cases xs with
  | nil => simp at h
  | cons x xs =>
    obtain ⟨u, qs⟩ := x
    rw [List.map_cons] at h
    obtain ⟨h1, h2⟩ := List.cons.inj h
    simp only [List.map_eq_nil_iff] at h1 h2
    subst h1 h2
    exact ⟨u, rfl⟩

set_option maxRecDepth 100000 in
set_option maxHeartbeats 2000000 in
theorem clipInside_any (lx ly hx hy : Int) (hl : Near (lx, ly)) (hh : Near (hx, hy)) (h1 : lx < hx) (h2 : ly < hy) (v rv : Value) (ps : List (Int × Int)) (B : Nat) (w : World) (h4 : 4 ≤ ps.length) (hlen : ps.length ≤ 1000) (hn : ∀ p ∈ ps, Near p)
    (hoc : ∀ i (h : i + 1 < ps.length), Octi ps[i] ps[i + 1]) (he : ps[ps.length - 1] = ps[0]) (hR : lineL true lx ly hx hy ps = [ps]) (hin : (lx < ps[0].1 ∧ ps[0].1 < hx) ∧ ly < ps[0].2 ∧ ps[0].2 < hy) (h : RowsAt w B 74 69 ptE v [(rv, ps)]) :
    Calls Try.prog 41 #[.agg #[.float .f64 (F lx), .float .f64 (F ly), .float .f64 (F hx), .float .f64 (F hy)], v] w
      fun e w' => ∃ ao1 cap1 ao2 cap2, e = .returned (.tuple #[.slice ao1 0 cap1, .slice ao2 1 cap2]) ∧ Below w.heap.size w w' := by
  obtain ⟨ao, cap, g, rfl, hg, hc⟩ := h.read
  obtain ⟨rfl, hgs, _⟩ := hg (by simp)
  obtain ⟨aq, cq, _, c0, ho⟩ := hc 0 (by simp)
  have c0 : w.cell? ⟨g, 0, none⟩ = some (.slice aq ps.length cq) := c0
  have ho : w.ownsRow 0 69 2 (.slice aq ps.length cq) ps.length (ps.flatMap ptE) := ho
  simp only [List.length_cons, List.length_nil, Nat.zero_add]
  clear h hg hc
  obtain ⟨i1, hj, hy0, hy1, hy2⟩ := info_parts Try.info100
  have hls := hl.sm
  have hhs := hh.sm
  have hp0 := (hn ps[0] (List.getElem_mem _)).sm
  have hline := fun go gp W hgo hgl hp hr => lineStringO_full go gp lx ly hx hy hl hh h1 h2 aq cq ps 0 W hlen hn hoc hgo hgl hp hr
  rw [hR] at hline
  have hclo := fun W hr => ringClosed_any aq cq ps 0 W h4 (by omega) hp0 he hr
  obtain ⟨g5, hg5, hc5⟩ := pts_read ho
  obtain ⟨q, hq⟩ : ∃ q, q = ps[0] := ⟨_, rfl⟩
  rw [← hq] at hin hp0
  have HQ : Hid (q = ps[0]) := hq
  have HE : Hid (ps[ps.length - 1] = ps[0]) := he
  clear hR hn hoc he hg5 hc5 hq hl hh
  go_enter Try.func41, Try.ntmps41
  go_wp2_with fail
  have hb0 := Blk.new w #[.float .f64 (F lx), .float .f64 (F ly), .float .f64 (F hx), .float .f64 (F hy)] 71
  go_loopw [6, 18] (fun v6 vi wr => ∃ (k : Nat), k ≤ 1 ∧ vi = .int .i64 k ∧ Blk wr w.heap.size #[.float .f64 (F lx), .float .f64 (F ly), .float .f64 (F hx), .float .f64 (F hy)] 71 ∧ Below w.heap.size w wr ∧
      ((k = 0 ∧ v6 = .slice none 0 0) ∨ (k = 1 ∧ ∃ u, RowsAt wr w.heap.size 100 69 ptE v6 [(u, ps)])))
    (fun _ i _ => 1 - (intOf i).toNat)
  case atStart => exact ⟨0, by omega, rfl, hb0, (Below.refl _ _).alloc (Nat.le_refl _) _, .inl ⟨rfl, rfl⟩⟩
  case round =>
    obtain ⟨k, hk, rfl, hbx, hbel, hcase⟩ := hrel
    rcases hcase with ⟨rfl, rfl⟩ | ⟨rfl, u, hrow⟩
    · have d0 : wr.cell? ⟨g, 0, none⟩ = some (.slice aq ps.length cq) := (hbel.cell (by exact hgs)).trans c0
      have hor := own_below ho hbel (Nat.le_refl _)
      have e0 : wr.cell? ⟨w.heap.size, 0, none⟩ = some (.float .f64 (F lx)) := hbx.cell 0
      have e1 : wr.cell? ⟨w.heap.size, 1, none⟩ = some (.float .f64 (F ly)) := hbx.cell 1
      have e2 : wr.cell? ⟨w.heap.size, 2, none⟩ = some (.float .f64 (F hx)) := hbx.cell 2
      have e3 : wr.cell? ⟨w.heap.size, 3, none⟩ = some (.float .f64 (F hy)) := hbx.cell 3
      have hcl := fun n => hclo (wr.drewN n) (own_below ho (below_drewN hbel n) (Nat.le_refl _))
      have hclo2 := hclo
      clear hclo hb0
      go_wp2_with fail
      go_quiet ((go_at_call 47; refine Calls.quiet_of (hcl _)))
      go_wp2_with fail
      have HS : Hid (∀ W, Below wr.heap.size wr W → (W.cell? ⟨w.heap.size, 0, none⟩ = some (.float .f64 (F lx)) ∧ W.cell? ⟨w.heap.size, 1, none⟩ = some (.float .f64 (F ly)) ∧ W.cell? ⟨w.heap.size, 2, none⟩ = some (.float .f64 (F hx)) ∧ W.cell? ⟨w.heap.size, 3, none⟩ = some (.float .f64 (F hy)))) :=
        fun W hb => ⟨cell_later hb e0, cell_later hb e1, cell_later hb e2, cell_later hb e3⟩
      have hBq : Below wr.heap.size wr (wr.drewN nq) := below_drewN (Below.refl _ _) _
      go_cut [9] (fun v9 wc => ∃ u ao1 cap1, v9 = .slice ao1 1 cap1 ∧ Lines wc w.heap.size (.slice ao1 1 cap1) [(u, ps)] ∧ Below wr.heap.size wr wc)
      case first =>
        -- DONE
        go_region_held3 (fun w' => (w'.cell? ⟨w.heap.size, 0, none⟩ = some (.float .f64 (F lx)) ∧ w'.cell? ⟨w.heap.size, 1, none⟩ = some (.float .f64 (F ly)) ∧ w'.cell? ⟨w.heap.size, 2, none⟩ = some (.float .f64 (F hx)) ∧ w'.cell? ⟨w.heap.size, 3, none⟩ = some (.float .f64 (F hy))))
          ((refine HS.out _ ?_; repeat first | assumption | exact Below.refl _ _ | refine Below.drew ?_ | refine below_drewN ?_ _ | refine below_alloc ?_ _ (Nat.le_refl _)))
          (first
            | (go_at_call 49; refine (openBound_any _).mono ?_; rintro e wA ⟨rfl, hoA, hbA⟩; have hBA : Below wr.heap.size wr wA := below_step (by repeat first | assumption | exact Below.refl _ _ | refine Below.drew ?_ | refine below_drewN ?_ _ | refine below_alloc ?_ _ (Nat.le_refl _)) hbA; have horA := own_below hor hBA (Nat.le_refl _))
            | (go_at_call 48; refine (hline _ _ _ (by first | exact (Blk.new _ _ _).cell 0 | exact (Blk.new _ _ _).drew.cell 0 | exact (Blk.new _ _ _).drew.drew.cell 0) (by first | exact (Blk.new _ _ _).lt | exact (Blk.new _ _ _).drew.lt | exact (Blk.new _ _ _).drew.drew.lt) (by repeat first | exact hoA | refine Blk.drew ?_ | refine Blk.alloc ?_ _) (by repeat first | exact horA | refine World.ownsRow.drew ?_ | refine World.ownsRow.alloc ?_ _)).mono ?_; rintro e wB ⟨vB, xB, rfl, hxB, hrB, hbB, hlB, hnB⟩; have hBB : Below wr.heap.size wr wB := below_step (by repeat first | assumption | exact Below.refl _ _ | refine Below.drew ?_ | refine below_drewN ?_ _ | refine below_alloc ?_ _ (Nat.le_refl _)) hbB; have hrB2 := hrB.mono (B' := wr.heap.size) (Below.size (B := wr.heap.size) (w := wr) (by repeat first | assumption | exact Below.refl _ _ | refine Below.drew ?_ | refine below_drewN ?_ _ | refine below_alloc ?_ _ (Nat.le_refl _)))))
        all_goals go_wp2_with fail
        all_goals go_meet
        all_goals
          obtain ⟨u, rfl⟩ := one_row hxB
          have hr := hrB2.mono (B' := w.heap.size) hbel.size
          obtain ⟨ao1, cap1, rfl, _⟩ := hr.rows
          exact ⟨u, ao1, cap1, rfl, hr, hBB⟩
        -- ENOD
      case rest =>
        obtain ⟨u, ao1, cap1, rfl, hln, hbc⟩ := hcut
        have hbx2 := hbx.below hbc hbx.lt
        have hB2 := hbel.trans (hbc.mono hbel.size)
        have hor2 := own_below hor hbc (Nat.le_refl _)
        clear hbx hbel hbc hor HS hBq e0 e1 e2 e3 hcl hline d0
        go_wp2_with fail
        refine (hclo2 _ hor2).mono ?_
        rintro e w3 ⟨rfl, nq3, rfl⟩
        obtain ⟨aoR, capR, gR, hvR, hgR, hrdR⟩ := hln.rows.read
        cases hvR
        obtain ⟨rfl, hgsR, _⟩ := hgR (by simp)
        obtain ⟨aqR, cqR, hu, cR, hoR⟩ := hrdR 0 (by simp)
        have hu1 : ∀ z ∈ [u], z.oneCell' = true := fun z hz => by rw [List.mem_singleton.1 hz, show u = _ from hu]; rfl
        clear hu
        have cR : wc.cell? ⟨gR, 0, none⟩ = some (.slice aqR ps.length cqR) := cR
        have hoR : wc.ownsRow 0 69 2 (.slice aqR ps.length cqR) ps.length (ps.flatMap ptE) := hoR
        obtain ⟨gq, hgq, hcq⟩ := pts_read hoR
        obtain ⟨rfl, hgsq, _⟩ := hgq (by omega)
        obtain ⟨cf0, cf1⟩ := hcq 0 (by omega)
        obtain ⟨cl0, cl1⟩ := hcq (ps.length - 1) (by omega)
        rw [HE.out, ← HQ.out] at cl0 cl1
        rw [← HQ.out] at cf0 cf1
        have e0 : wc.cell? ⟨w.heap.size, 0, none⟩ = some (.float .f64 (F lx)) := hbx2.cell 0
        have e1 : wc.cell? ⟨w.heap.size, 1, none⟩ = some (.float .f64 (F ly)) := hbx2.cell 1
        have e2 : wc.cell? ⟨w.heap.size, 2, none⟩ = some (.float .f64 (F hx)) := hbx2.cell 2
        have e3 : wc.cell? ⟨w.heap.size, 3, none⟩ = some (.float .f64 (F hy)) := hbx2.cell 3
        clear hgR hrdR hgq hcq
        go_wp2_with fail
        obtain ⟨wz, rfl⟩ : ∃ wz, wz = wc := ⟨_, rfl⟩
        have hBz : Below wz.heap.size wz (wz.drewN nq3) := below_drewN (Below.refl _ _) _
        go_loopw [9, 10] (fun v9 vi wr => ∃ (k : Nat), k ≤ 1 ∧ vi = .int .i64 k ∧ v9 = .slice (some ⟨gR, 0, none⟩) 1 cap1 ∧ Below wz.heap.size wz wr) (fun _ vi _ => 1 - (intOf vi).toNat)
        case atStart => exact ⟨0, by omega, rfl, rfl, hBz⟩
        case round =>
          obtain ⟨k, hk, rfl, rfl, hbel⟩ := hrel
          by_cases hk0 : k = 0
          · subst hk0
            have d0 : wr.cell? ⟨gR, 0, none⟩ = some (.slice (some ⟨gq, 0, none⟩) ps.length cqR) := (hbel.cell (by exact hgsR)).trans cR
            have d1 : wr.cell? ⟨gq, (ps.length - 1) * 2, none⟩ = some (.float .f64 (F q.1)) := (hbel.cell (by exact hgsq)).trans cl0
            have d2 : wr.cell? ⟨gq, (ps.length - 1) * 2 + 1, none⟩ = some (.float .f64 (F q.2)) := (hbel.cell (by exact hgsq)).trans cl1
            have f0 : wr.cell? ⟨w.heap.size, 0, none⟩ = some (.float .f64 (F lx)) := cell_later hbel e0
            have f1 : wr.cell? ⟨w.heap.size, 1, none⟩ = some (.float .f64 (F ly)) := cell_later hbel e1
            have f2 : wr.cell? ⟨w.heap.size, 2, none⟩ = some (.float .f64 (F hx)) := cell_later hbel e2
            have f3 : wr.cell? ⟨w.heap.size, 3, none⟩ = some (.float .f64 (F hy)) := cell_later hbel e3
            have hi : (4 : Int) ≤ (ps.length : Int) := by omega
            have ht : ((ps.length : Int) - 1).toNat = ps.length - 1 := by omega
            clear hBz
            go_wp2_with fail
            go_cut [11] (fun v11 wc => ∃ b, v11 = .pointer (some ⟨b, 0, none⟩) ∧ b ≠ gR ∧ Blk wc b #[.float .f64 (F q.1), .float .f64 (F q.2)] 69 ∧ Below wr.heap.size wr wc)
            case first =>
              have hgw : gR < wr.heap.size := Nat.lt_of_lt_of_le hgsR hbel.size
              have hgw2 : gq < wr.heap.size := Nat.lt_of_lt_of_le hgsq hbel.size
              have a0 : ∀ o, (wr.alloc o).cell? ⟨gR, 0, none⟩ = some (.slice (some ⟨gq, 0, none⟩) ps.length cqR) := fun o => by rw [World.cell?_alloc_past _ _ _ hgw]; exact d0
              have a1 : ∀ o, (wr.alloc o).cell? ⟨gq, (ps.length - 1) * 2, none⟩ = some (.float .f64 (F q.1)) := fun o => by rw [World.cell?_alloc_past _ _ _ hgw2]; exact d1
              have a2 : ∀ o, (wr.alloc o).cell? ⟨gq, (ps.length - 1) * 2 + 1, none⟩ = some (.float .f64 (F q.2)) := fun o => by rw [World.cell?_alloc_past _ _ _ hgw2]; exact d2
              have hw1 : IntKind.i64.wrap ((ps.length : Int) - 1) = (ps.length : Int) - 1 := IntWalk.i64_in _ (by omega)
              have hw2 : (0 : Int) ≤ (ps.length : Int) - 1 := by omega
              have hw3 : (ps.length : Int) - 1 < (ps.length : Int) := by omega
              have hw4 : (1 : Int) ≤ (ps.length : Int) := by omega
              -- DONE
              go_region
              all_goals go_wp2_with fail
              all_goals go_meet
              all_goals exact ⟨_, rfl, by omega, (Blk.new _ _ _).drew, below_drewN (below_alloc (Below.refl _ _) _ (Nat.le_refl _)) 1⟩
              -- ENOD
            case rest =>
              obtain ⟨b, rfl, hbg, hbq, hbc⟩ := hcut
              have hB1 := hbel.trans (hbc.mono hbel.size)
              have g0 : wc.cell? ⟨w.heap.size, 0, none⟩ = some (.float .f64 (F lx)) := cell_later hbc f0
              have g1 : wc.cell? ⟨w.heap.size, 1, none⟩ = some (.float .f64 (F ly)) := cell_later hbc f1
              have g2 : wc.cell? ⟨w.heap.size, 2, none⟩ = some (.float .f64 (F hx)) := cell_later hbc f2
              have g3 : wc.cell? ⟨w.heap.size, 3, none⟩ = some (.float .f64 (F hy)) := cell_later hbc f3
              have g4 : wc.cell? ⟨b, 0, none⟩ = some (.float .f64 (F q.1)) := hbq.cell 0
              have g5 : wc.cell? ⟨b, 1, none⟩ = some (.float .f64 (F q.2)) := hbq.cell 1
              have q0 : decide (q.1 = lx) = false := decide_eq_false (by omega)
              have q1 : decide (hx = q.1) = false := decide_eq_false (by omega)
              have q2 : decide (q.2 = ly) = false := decide_eq_false (by omega)
              have q3 : decide (hy = q.2) = false := decide_eq_false (by omega)
              clear f0 f1 f2 f3 d0 d1 d2 hbc hbel
              go_wp2_with fail
              go_loopw [9, 10, 12] (fun v9 v10 v12 wr => ∃ (k : Nat), k ≤ 1 ∧ v12 = .int .i64 k ∧ v10 = .int .i64 0 ∧ v9 = .slice (some ⟨gR, 0, none⟩) 1 cap1 ∧ Below wz.heap.size wz wr) (fun _ _ vi _ => 1 - (intOf vi).toNat)
              case atStart => exact ⟨0, by omega, rfl, rfl, rfl, hB1⟩
              case round =>
                obtain ⟨k, hk, rfl, rfl, rfl, hbel⟩ := hrel
                by_cases hk0 : k = 0
                · subst hk0
                  go_wp2_with fail
                  go_roundw
                  case rel => exact ⟨1, by omega, by go_num, rfl, rfl, hbel⟩
                  case measure => simp [intOf]
                · obtain rfl : k = 1 := by omega
                  go_wp2_with fail
                  go_roundw
                  case rel => exact ⟨1, by omega, by go_num, rfl, hbel⟩
                  case measure => simp [intOf]
          · obtain rfl : k = 1 := by omega
            have hB4 := hB2.trans (hbel.mono hB2.size)
            have hbx4 := hbx2.below hbel hbx2.lt
            have hr4 := hln.rows.below hbel (Nat.le_refl _)
            obtain ⟨_, _, hv4, ho4, hrw4⟩ := hr4
            cases hv4
            clear hbx2 hB2 hBz e0 e1 e2 e3 cR cf0 cf1 cl0 cl1 hoR
            go_wp2_with (at_builtin; refine wpList_pushAllT rfl (.tmp 152) (.tmp 153) 90 98 rfl 100 Try.underlying98 100 i1 _ 1 24 Try.underlying90 hj hy0 hy1 hy2 rfl (by decide) (by decide) w _ w.heap.size (.slice none 0 0) 0 [] rfl (World.ownsRow_nil _ _ _ _) w.heap.size hB4 (Nat.le_refl _) hB4.size (by omega) [u] _ gR 1 cap1 _ ho4 (by omega) (by omega) rfl hu1 (Nat.le_refl _) ?_)
            intro g' cap' w5 hown5 hbel5 hgr5 _ _
            have hbx5 := hbx4.grown hgr5 (by simp [Value.ownBlock])
            have hrow5 : RowAt w5 69 ptE u ps := (hrw4 (u, ps) (by simp)).kept hgr5 (fun g _ => by simp [Value.ownBlock])
            clear hgr5 hrw4 ho4 hbx4 hB4 hbel
            go_wp2_with fail
            go_roundw
            case rel => exact ⟨1, by omega, by go_num, hbx5, hbel5, .inr ⟨rfl, u, ⟨_, _, rfl, hown5, fun x hx => by rw [List.mem_singleton.1 hx]; exact hrow5⟩⟩⟩
            case measure => simp [intOf]
    · obtain ⟨ao6, cap6, hv6, ho6, hrw6⟩ := hrow
      subst hv6
      obtain ⟨g6, hg6, hc6⟩ := vals_read ho6
      obtain ⟨rfl, hgs6, _⟩ := hg6 (by simp)
      obtain ⟨aq6, cq6, hu6, hoq6⟩ := hrw6 (u, ps) (by simp)
      simp only at hu6
      subst hu6
      have hoq6 : wr.ownsRow 0 69 2 (.slice aq6 ps.length cq6) ps.length (ps.flatMap ptE) := hoq6
      have c6 : wr.cell? ⟨g6, 0, none⟩ = some (.slice aq6 ps.length cq6) := hc6 0 (by simp)
      obtain ⟨gq6, hgq6, hcq6⟩ := pts_read hoq6
      obtain ⟨rfl, hgsq6, _⟩ := hgq6 (by omega)
      obtain ⟨cf0, cf1⟩ := hcq6 0 (by omega)
      obtain ⟨cl0, cl1⟩ := hcq6 (ps.length - 1) (by omega)
      rw [HE.out, ← HQ.out] at cl0 cl1
      rw [← HQ.out] at cf0 cf1
      clear hgq6 hcq6 hc6 hg6 hrw6 hclo hline hb0 ho
      simp only [List.length_cons, List.length_nil, Nat.zero_add]
      go_wp2_with fail
      obtain ⟨wz, rfl⟩ : ∃ wz, wz = wr := ⟨_, rfl⟩
      obtain ⟨i2, hk', hz0, hz1, hz2⟩ := info_parts Try.info74
      have hi : (4 : Int) ≤ (ps.length : Int) := by omega
      have hw1 : IntKind.i64.wrap ((ps.length : Int) - 1) = (ps.length : Int) - 1 := IntWalk.i64_in _ (by omega)
      have hw2 : (0 : Int) ≤ (ps.length : Int) - 1 := by omega
      have hw3 : (ps.length : Int) - 1 < (ps.length : Int) := by omega
      have hw4 : (1 : Int) ≤ (ps.length : Int) := by omega
      have hw6 : (0 : Int) < (ps.length : Int) := by omega
      have hw7 : 0 < ps.length := by omega
      have hw5 : ((ps.length : Int) - 1).toNat = ps.length - 1 := by omega
      have hside : sideI lx ly hx hy q.1 q.2 = 255 := by unfold sideI; rw [if_neg (by omega), if_neg (by omega), if_neg (by omega), if_neg (by omega)]
      have e0 : wz.cell? ⟨w.heap.size, 0, none⟩ = some (.float .f64 (F lx)) := hbx.cell 0
      have e1 : wz.cell? ⟨w.heap.size, 1, none⟩ = some (.float .f64 (F ly)) := hbx.cell 1
      have e2 : wz.cell? ⟨w.heap.size, 2, none⟩ = some (.float .f64 (F hx)) := hbx.cell 2
      have e3 : wz.cell? ⟨w.heap.size, 3, none⟩ = some (.float .f64 (F hy)) := hbx.cell 3
      go_loopw [5, 13, 158] (fun v5 v13 vi wr => v13 = .int .i64 0 ∧ Below wz.heap.size wz wr ∧ ∃ (k : Nat), k ≤ 1 ∧ vi = .int .i64 k ∧ ((k = 0 ∧ v5 = .slice none 0 0) ∨ (k = 1 ∧ ∃ ao2 cap2, v5 = .slice ao2 1 cap2)))
        (fun _ _ vi _ => 1 - (intOf vi).toNat)
      case atStart => exact ⟨rfl, Below.refl _ _, 0, by omega, rfl, .inl ⟨rfl, rfl⟩⟩
      case round =>
        obtain ⟨rfl, hbl, k, hk, rfl, hcase⟩ := hrel
        rcases hcase with ⟨rfl, rfl⟩ | ⟨rfl, ao2, cap2, rfl⟩
        · have d0 : wr.cell? ⟨g6, 0, none⟩ = some (.slice (some ⟨gq6, 0, none⟩) ps.length cq6) := cell_later hbl c6
          have f0 := cell_later hbl e0
          have f1 := cell_later hbl e1
          have f2 := cell_later hbl e2
          have f3 := cell_later hbl e3
          have f4 : wr.cell? ⟨gq6, 0, none⟩ = some (.float .f64 (F q.1)) := cell_later hbl cf0
          have f5 : wr.cell? ⟨gq6, 1, none⟩ = some (.float .f64 (F q.2)) := cell_later hbl cf1
          have f6 : wr.cell? ⟨gq6, (ps.length - 1) * 2, none⟩ = some (.float .f64 (F q.1)) := cell_later hbl cl0
          have f7 : wr.cell? ⟨gq6, (ps.length - 1) * 2 + 1, none⟩ = some (.float .f64 (F q.2)) := cell_later hbl cl1
          have HS : Hid (∀ w', Below wr.heap.size wr w' → (w'.cell? ⟨w.heap.size, 0, none⟩ = some (.float .f64 (F lx)) ∧ w'.cell? ⟨w.heap.size, 1, none⟩ = some (.float .f64 (F ly)) ∧ w'.cell? ⟨w.heap.size, 2, none⟩ = some (.float .f64 (F hx)) ∧ w'.cell? ⟨w.heap.size, 3, none⟩ = some (.float .f64 (F hy)) ∧ w'.cell? ⟨gq6, 0, none⟩ = some (.float .f64 (F q.1)) ∧ w'.cell? ⟨gq6, 1, none⟩ = some (.float .f64 (F q.2)) ∧ w'.cell? ⟨gq6, (ps.length - 1) * 2, none⟩ = some (.float .f64 (F q.1)) ∧ w'.cell? ⟨gq6, (ps.length - 1) * 2 + 1, none⟩ = some (.float .f64 (F q.2)))) :=
            fun W hb => ⟨cell_later hb f0, cell_later hb f1, cell_later hb f2, cell_later hb f3, cell_later hb f4, cell_later hb f5, cell_later hb f6, cell_later hb f7⟩
          have hps := fun W => pointSide_any lx ly hx hy q.1 q.2 hls.1 hls.2 hhs.1 hhs.2 hp0.1 hp0.2 W
          rw [hside] at hps
          clear cf0 cf1 cl0 cl1 c6 hside
          go_wp2_with fail
          go_cut [179] (fun v wc => v = .bool true ∧ Below wr.heap.size wr wc)
          case first =>
            -- DONE
            go_region_held3 (fun w' => (w'.cell? ⟨w.heap.size, 0, none⟩ = some (.float .f64 (F lx)) ∧ w'.cell? ⟨w.heap.size, 1, none⟩ = some (.float .f64 (F ly)) ∧ w'.cell? ⟨w.heap.size, 2, none⟩ = some (.float .f64 (F hx)) ∧ w'.cell? ⟨w.heap.size, 3, none⟩ = some (.float .f64 (F hy)) ∧ w'.cell? ⟨gq6, 0, none⟩ = some (.float .f64 (F q.1)) ∧ w'.cell? ⟨gq6, 1, none⟩ = some (.float .f64 (F q.2)) ∧ w'.cell? ⟨gq6, (ps.length - 1) * 2, none⟩ = some (.float .f64 (F q.1)) ∧ w'.cell? ⟨gq6, (ps.length - 1) * 2 + 1, none⟩ = some (.float .f64 (F q.2))))
              ((refine HS.out _ ?_; repeat first | assumption | exact Below.refl _ _ | refine Below.drew ?_ | refine below_drewN ?_ _ | refine below_alloc ?_ _ (Nat.le_refl _)))
              ((go_at_call 50; refine (hps _).mono ?_; rintro e wA ⟨rfl, hbA⟩; have hBA : Below wr.heap.size wr wA := below_step (by repeat first | assumption | exact Below.refl _ _ | refine Below.drew ?_ | refine below_drewN ?_ _ | refine below_alloc ?_ _ (Nat.le_refl _)) hbA))
            all_goals go_wp2_with fail
            all_goals go_meet
            all_goals exact ⟨rfl, hBA⟩
            -- ENOD
          case rest =>
            obtain ⟨rfl, hbc⟩ := hcut
            have hB5 := hbl.trans (hbc.mono hbl.size)
            clear f0 f1 f2 f3 f4 f5 f6 f7 d0 HS hps
            go_wp2_with (at_builtin; refine wpList_push rfl (.tmp 180) (.tmp 182) 85 rfl 74 i2 _ 1 24 Try.underlying85 hk' hz0 hz1 hz2 rfl (by decide) (by decide) wz _ wz.heap.size (.slice none 0 0) 0 [] rfl (World.ownsRow_nil _ _ _ _) wz.heap.size hB5 (Nat.le_refl _) hB5.size (by omega) [_] _ _ rfl 1 rfl rfl (by simp [Value.oneCell']) ?_)
            intro g' cap' w5 hown5 hbel5 hsz5 _ _ _
            go_wp2_with fail
            go_roundw
            case rel => exact ⟨rfl, hbel5, 1, by omega, by go_num, .inr ⟨rfl, _, _, rfl⟩⟩
            case measure => simp [intOf]
        · have hB6 := hbel.trans (hbl.mono hbel.size)
          go_wp2_with fail
          go_ret2
          exact ⟨_, _, _, _, rfl, hB6⟩
end Go.Proofs.Ytafanlbfbfbeoaa
