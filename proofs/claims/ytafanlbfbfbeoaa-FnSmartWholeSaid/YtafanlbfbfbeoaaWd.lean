/- How often a ring goes around a point. -/
import Derived.Test.YtafanlbfbfbeoaaSw
import Derived.Deep.QuietTactic
import Derived.BigQuiet
import Derived.BigRegion
namespace Go.Proofs.Ytafanlbfbfbeoaa
open Go.RowKit

/-- The points, from the second one on, and the first one again. -/
def rotL : List (Int × Int) → List (Int × Int)
  | [] => []
  | p :: ps => ps ++ [p]

theorem rot_len : ∀ ps : List (Int × Int), (rotL ps).length = ps.length
  | [] => rfl
  | p :: ps => by simp [rotL]

theorem rot_get {ps : List (Int × Int)} {k : Nat} (h : k < ps.length) : (rotL ps)[k]'(by rw [rot_len]; exact h) = ps[(k + 1) % ps.length]'(Nat.mod_lt _ (by omega)) := by
  cases ps with
  | nil => simp at h
  | cons p ps =>
    by_cases hk : k < ps.length
    · have e : (k + 1) % (p :: ps).length = k + 1 := Nat.mod_eq_of_lt (by simp; omega)
      simp only [rotL, e, List.getElem_cons_succ]
      rw [List.getElem_append_left hk]
    · obtain rfl : k = ps.length := by simp at h; omega
      have e : (ps.length + 1) % (p :: ps).length = 0 := by simp
      simp only [rotL, e, List.getElem_cons_zero]
      rw [List.getElem_append_right (by omega)]
      simp

theorem rot_winds (X Y : Int) {ps : List (Int × Int)} (h : 0 < ps.length) : chainI X Y ps[0] (rotL ps) = windI X Y ps := by
  cases ps with
  | nil => simp at h
  | cons p ps =>
    show chainI X Y p (ps ++ [p]) = _
    unfold windI
    rw [chain_append, lastOr_cons]
    show _ = crossI X Y (lastOr p ps) p + chainI X Y p ps
    rw [chainI, chainI]
    omega

theorem cross_bd (X Y : Int) (a b : Int × Int) : -1 ≤ crossI X Y a b ∧ crossI X Y a b ≤ 1 := by
  unfold crossI
  split <;> split <;> omega

theorem chain_bd (X Y : Int) : ∀ (l : List (Int × Int)) (q : Int × Int), -(l.length : Int) ≤ chainI X Y q l ∧ chainI X Y q l ≤ l.length
  | [], q => by simp [chainI]
  | p :: l, q => by
    have h1 := cross_bd X Y q p
    have h2 := chain_bd X Y l p
    simp only [chainI, List.length_cons]
    omega

theorem rot_last {ps : List (Int × Int)} {k : Nat} (h : k < ps.length) : lastOr (ps.headD (0, 0)) ((rotL ps).take k) = ps[k] := by
  cases ps with
  | nil => simp at h
  | cons p ps =>
    have hk : k ≤ ps.length := by simp at h; omega
    show lastOr p ((ps ++ [p]).take k) = _
    rw [List.take_append_of_le_length hk]
    cases k with
    | zero => rfl
    | succ m =>
      have hl : (ps.take (m + 1)).length = m + 1 := by rw [List.length_take]; omega
      rw [last_is (by omega), List.getElem_cons_succ]
      simp only [hl, Nat.add_sub_cancel, List.getElem_take]

theorem prod_bd {p q : Int} (hp : -40000 ≤ p ∧ p ≤ 40000) (hq : -40000 ≤ q ∧ q ≤ 40000) : -1600000000 ≤ p * q ∧ p * q ≤ 1600000000 := by
  have h1 : (p * q).natAbs ≤ 40000 * 40000 := by
    rw [Int.natAbs_mul]
    exact Nat.mul_le_mul (by omega) (by omega)
  omega

theorem left_wrap {X Y : Int} {a b : Int × Int} (hX : -128 ≤ X ∧ X ≤ 128) (hY : -128 ≤ Y ∧ Y ≤ 128) (ha : Near a) (hb : Near b) :
    wrap64 (wrap64 ((4 * b.1 - 4 * a.1) * (4 * Y + 1 - 4 * a.2)) - wrap64 ((4 * X + 2 - 4 * a.1) * (4 * b.2 - 4 * a.2))) = leftI X Y a b := by
  obtain ⟨⟨n1, n2⟩, n3, n4⟩ := ha
  obtain ⟨⟨n5, n6⟩, n7, n8⟩ := hb
  have m1 := prod_bd (p := 4 * b.1 - 4 * a.1) (q := 4 * Y + 1 - 4 * a.2) (by omega) (by omega)
  have m2 := prod_bd (p := 4 * X + 2 - 4 * a.1) (q := 4 * b.2 - 4 * a.2) (by omega) (by omega)
  unfold leftI
  generalize (4 * b.1 - 4 * a.1) * (4 * Y + 1 - 4 * a.2) = P at *
  generalize (4 * X + 2 - 4 * a.1) * (4 * b.2 - 4 * a.2) = R at *
  have w1 : wrap64 P = P := by simp only [wrap64]; omega
  have w2 : wrap64 R = R := by simp only [wrap64]; omega
  rw [w1, w2]
  simp only [wrap64]; omega

set_option maxRecDepth 100000 in
set_option maxHeartbeats 2000000 in
theorem winds_any (X Y : Int) (hX : -128 ≤ X ∧ X ≤ 128) (hY : -128 ≤ Y ∧ Y ≤ 128) (ao : Option Addr) (cap : Nat) (ps : List (Int × Int)) (B : Nat) (w : World) (hl : ps.length ≤ 100000) (hn : ∀ p ∈ ps, Near p) (h : w.ownsRow B 25 2 (.slice ao ps.length cap) ps.length (ps.flatMap spotE)) :
    Calls Try.prog 36 #[.slice ao ps.length cap, .int .i64 (4 * X + 2), .int .i64 (4 * Y + 1), .int .i64 4] w
      fun e w' => e = .returned (.int .i64 (windI X Y ps)) ∧ Below w.heap.size w w' := by
  obtain ⟨g, hg, hc⟩ := spots_read h
  clear h
  go_enter Try.func36, Try.ntmps36
  go_wp2_with fail
  go_loopw [9, 20] (fun v i wr => ∃ (k : Nat) (c : Int), k ≤ ps.length ∧ i = .int .i64 k ∧ v = .int .i64 c ∧ Hid (c = chainI X Y (ps.headD (0, 0)) ((rotL ps).take k)) ∧ Below w.heap.size w wr)
    (fun _ i _ => ps.length - (intOf i).toNat)
  case atStart => exact ⟨0, 0, Nat.zero_le _, rfl, rfl, rfl, Below.refl _ _⟩
  case round =>
    obtain ⟨k, c, hk, rfl, rfl, HC, hbel⟩ := hrel
    by_cases hlt : k < ps.length
    · obtain ⟨rfl, hgs, _⟩ := hg (by omega)
      have hmod : (k + 1) % ps.length < ps.length := Nat.mod_lt _ (by omega)
      obtain ⟨c0, c1⟩ := hc k hlt
      obtain ⟨c2, c3⟩ := hc _ hmod
      have d0 : wr.cell? ⟨g, k * 2, none⟩ = some (.int .i64 ps[k].1) := (hbel.cell (by exact hgs)).trans c0
      have d1 : wr.cell? ⟨g, k * 2 + 1, none⟩ = some (.int .i64 ps[k].2) := (hbel.cell (by exact hgs)).trans c1
      have d2 : wr.cell? ⟨g, (k + 1) % ps.length * 2, none⟩ = some (.int .i64 ps[(k + 1) % ps.length].1) := (hbel.cell (by exact hgs)).trans c2
      have d3 : wr.cell? ⟨g, (k + 1) % ps.length * 2 + 1, none⟩ = some (.int .i64 ps[(k + 1) % ps.length].2) := (hbel.cell (by exact hgs)).trans c3
      have hgw : g < wr.heap.size := Nat.lt_of_lt_of_le hgs hbel.size
      obtain ⟨a, ha⟩ : ∃ a, a = ps[k] := ⟨_, rfl⟩
      obtain ⟨b, hb⟩ : ∃ b, b = ps[(k + 1) % ps.length] := ⟨_, rfl⟩
      rw [← ha] at d0 d1
      rw [← hb] at d2 d3
      have hna : Near a := by rw [ha]; exact hn _ (List.getElem_mem _)
      have hnb : Near b := by rw [hb]; exact hn _ (List.getElem_mem _)
      have HAB : Hid (a = ps[k] ∧ b = (rotL ps)[k]'(by rw [rot_len]; exact hlt)) := ⟨ha, hb.trans (rot_get hlt).symm⟩
      obtain ⟨j, hj⟩ : ∃ j, j = (k + 1) % ps.length := ⟨_, rfl⟩
      rw [← hj] at d2 d3
      have hjl : j < ps.length := by rw [hj]; exact hmod
      have hji : ((k : Int) + 1).tmod (ps.length : Int) = (j : Int) := by rw [hj, Int.tmod_eq_emod_of_nonneg (by omega)]; simp
      clear c0 c1 c2 c3 hc ha hb hj hmod
      go_wp2_with fail
      go_cut [11, 12] (fun s3 s4 wc => ∃ g3 g4 : Nat, s3 = .pointer (some ⟨g3, 0, none⟩) ∧ s4 = .pointer (some ⟨g4, 0, none⟩) ∧ Blk wc g3 #[.int .i64 a.1, .int .i64 a.2] 25 ∧ Blk wc g4 #[.int .i64 b.1, .int .i64 b.2] 25 ∧ Below w.heap.size w wc)
      case first =>
        have a0 : ∀ o, (wr.alloc o).cell? ⟨g, k * 2, none⟩ = some (.int .i64 a.1) := fun o => by rw [World.cell?_alloc_past _ _ _ hgw]; exact d0
        have a1 : ∀ o, (wr.alloc o).cell? ⟨g, k * 2 + 1, none⟩ = some (.int .i64 a.2) := fun o => by rw [World.cell?_alloc_past _ _ _ hgw]; exact d1
        have a2 : ∀ o, (wr.alloc o).cell? ⟨g, j * 2, none⟩ = some (.int .i64 b.1) := fun o => by rw [World.cell?_alloc_past _ _ _ hgw]; exact d2
        have a3 : ∀ o, (wr.alloc o).cell? ⟨g, j * 2 + 1, none⟩ = some (.int .i64 b.2) := fun o => by rw [World.cell?_alloc_past _ _ _ hgw]; exact d3
        go_region
        all_goals go_wp2_with fail
        all_goals go_meet
        · refine ⟨_, _, rfl, rfl, ((Blk.new wr #[.int .i64 a.1, .int .i64 a.2] 25).alloc _).drew, ?_, ((hbel.alloc hbel.size _).alloc (by have := hbel.size; simp; omega) _).drew⟩
          have hh := Blk.new (wr.alloc (.cells #[.int .i64 a.1, .int .i64 a.2] 25)) #[.int .i64 b.1, .int .i64 b.2] 25
          simp only [World.size_alloc] at hh
          exact hh.drew
        · refine ⟨_, _, rfl, rfl, ?_, ((Blk.new wr #[.int .i64 b.1, .int .i64 b.2] 25).alloc _).drew, ((hbel.alloc hbel.size _).alloc (by have := hbel.size; simp; omega) _).drew⟩
          have hh := Blk.new (wr.alloc (.cells #[.int .i64 b.1, .int .i64 b.2] 25)) #[.int .i64 a.1, .int .i64 a.2] 25
          simp only [World.size_alloc] at hh
          exact hh.drew
      case rest =>
        obtain ⟨g3, g4, rfl, rfl, b3, b4, hbc⟩ := hcut
        clear d0 d1 d2 d3 hgw hji hjl
        have x0 : wc.cell? ⟨g3, 0, none⟩ = some (.int .i64 a.1) := b3.cell 0
        have x1 : wc.cell? ⟨g3, 1, none⟩ = some (.int .i64 a.2) := b3.cell 1
        have y0 : wc.cell? ⟨g4, 0, none⟩ = some (.int .i64 b.1) := b4.cell 0
        have y1 : wc.cell? ⟨g4, 1, none⟩ = some (.int .i64 b.2) := b4.cell 1
        have hleft := left_wrap hX hY hna hnb
        have hcb : -100000 ≤ c ∧ c ≤ 100000 := by
          have h := chain_bd X Y ((rotL ps).take k) (ps.headD (0, 0))
          rw [← HC.out, List.length_take] at h
          omega
        obtain ⟨⟨n1, n2⟩, n3, n4⟩ := hna
        obtain ⟨⟨n5, n6⟩, n7, n8⟩ := hnb
        go_wp2_with fail
        go_quiet (fail)
        clear x0 x1 y0 y1 b3 b4
        have HN : Hid (chainI X Y (ps.headD (0, 0)) ((rotL ps).take (k + 1)) = c + crossI X Y a b) := by
          show _ = _
          rw [List.take_succ_eq_append_getElem (by rw [rot_len]; exact hlt), chain_append, ← HC.out, ← HAB.out.2]
          have hla : lastOr (ps.headD (0, 0)) ((rotL ps).take k) = a := by rw [rot_last hlt]; exact HAB.out.1.symm
          rw [hla]
          simp [chainI]
        go_wp2_with fail
        all_goals
          refine ⟨⟨k + 1, _, by omega, by go_num, rfl, ?_, below_drewN hbc _⟩, by simp [intOf]; omega⟩
          show _ = _
          rw [HN.out]
          unfold crossI
          (repeat' split) <;> omega
    · obtain rfl : k = ps.length := by omega
      have hW : Hid (c = windI X Y ps) := by
        show _ = _
        have hC := HC.out
        rw [← rot_len ps, List.take_length] at hC
        cases ps with
        | nil => rw [hC]; rfl
        | cons p ps => rw [hC]; exact rot_winds X Y (ps := p :: ps) (by simp)
      go_wp2
      go_ret
      exact ⟨by rw [hW.out]; rfl, hbel⟩
end Go.Proofs.Ytafanlbfbfbeoaa
