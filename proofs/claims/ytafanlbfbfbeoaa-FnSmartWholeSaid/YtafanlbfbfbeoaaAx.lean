/- Twice the area within a ring of points. -/
import Derived.Test.YtafanlbfbfbeoaaWd
namespace Go.Proofs.Ytafanlbfbfbeoaa
open Go.RowKit

def areaP (a b : Int × Int) : Int := a.1 * b.2 - b.1 * a.2

def areaR : Int × Int → List (Int × Int) → Int
  | _, [] => 0
  | q, p :: ps => areaP q p + areaR p ps

def areaL (ps : List (Int × Int)) : Int := areaR (ps.headD (0, 0)) (rotL ps)

theorem area_append : ∀ (q : Int × Int) (a b : List (Int × Int)), areaR q (a ++ b) = areaR q a + areaR (lastOr q a) b
  | q, [], b => by simp [areaR, lastOr]
  | q, x :: a, b => by rw [List.cons_append, areaR, areaR, area_append x a b, lastOr_cons]; omega

theorem areaP_bd {a b : Int × Int} (ha : Near a) (hb : Near b) : (-9000000 ≤ a.1 * b.2 ∧ a.1 * b.2 ≤ 9000000) ∧ (-9000000 ≤ b.1 * a.2 ∧ b.1 * a.2 ≤ 9000000) := by
  obtain ⟨⟨n1, n2⟩, n3, n4⟩ := ha
  obtain ⟨⟨n5, n6⟩, n7, n8⟩ := hb
  have h : ∀ p q : Int, -3000 ≤ p → p ≤ 3000 → -3000 ≤ q → q ≤ 3000 → -9000000 ≤ p * q ∧ p * q ≤ 9000000 := fun p q h1 h2 h3 h4 => by
    have h1 : (p * q).natAbs ≤ 3000 * 3000 := by
      rw [Int.natAbs_mul]
      exact Nat.mul_le_mul (by omega) (by omega)
    omega
  exact ⟨h _ _ n1 n2 n7 n8, h _ _ n5 n6 n3 n4⟩

theorem area_bd : ∀ (l : List (Int × Int)) (q : Int × Int), Near q → (∀ p ∈ l, Near p) → -(18000000 * (l.length : Int)) ≤ areaR q l ∧ areaR q l ≤ 18000000 * l.length
  | [], q, _, _ => by simp [areaR]
  | p :: l, q, hq, hl => by
    have h1 := areaP_bd hq (hl p (by simp))
    have h2 := area_bd l p (hl p (by simp)) fun u hu => hl u (by simp [hu])
    simp only [areaR, List.length_cons, areaP]
    omega

theorem area_wrap {c : Int} {a b : Int × Int} (ha : Near a) (hb : Near b) (hc : -4000000000000 ≤ c ∧ c ≤ 4000000000000) : wrap64 (c + wrap64 (wrap64 (a.1 * b.2) - wrap64 (b.1 * a.2))) = c + areaP a b := by
  obtain ⟨m1, m2⟩ := areaP_bd ha hb
  unfold areaP
  generalize a.1 * b.2 = P at *
  generalize b.1 * a.2 = R at *
  have w1 : wrap64 P = P := by simp only [wrap64]; omega
  have w2 : wrap64 R = R := by simp only [wrap64]; omega
  rw [w1, w2]
  have w3 : wrap64 (P - R) = P - R := by simp only [wrap64]; omega
  rw [w3]
  simp only [wrap64]; omega

set_option maxRecDepth 100000 in
set_option maxHeartbeats 2000000 in
theorem area_any (ao : Option Addr) (cap : Nat) (ps : List (Int × Int)) (B : Nat) (w : World) (hl : ps.length ≤ 100000) (hn : ∀ p ∈ ps, Near p) (h : w.ownsRow B 25 2 (.slice ao ps.length cap) ps.length (ps.flatMap spotE)) :
    Calls Try.prog 16 #[.slice ao ps.length cap] w
      fun e w' => e = .returned (.int .i64 (areaL ps)) ∧ Below w.heap.size w w' := by
  have hnh : Near (ps.headD (0, 0)) := by
    cases ps with
    | nil => exact ⟨by decide, by decide⟩
    | cons p ps => exact hn p (by simp)
  have hnr : ∀ p ∈ rotL ps, Near p := fun p hp => by
    cases ps with
    | nil => simp [rotL] at hp
    | cons q ps => exact hn p (by simp only [rotL, List.mem_append, List.mem_singleton] at hp; simp only [List.mem_cons]; exact hp.symm)
  obtain ⟨g, hg, hc⟩ := spots_read h
  clear h
  go_enter Try.func16, Try.ntmps16
  go_wp2_with fail
  go_loopw [3, 9] (fun v i wr => ∃ (k : Nat) (c : Int), k ≤ ps.length ∧ i = .int .i64 k ∧ v = .int .i64 c ∧ Hid (c = areaR (ps.headD (0, 0)) ((rotL ps).take k)) ∧ Below w.heap.size w wr)
    (fun _ i _ => ps.length - (intOf i).toNat)
  case atStart => exact ⟨0, 0, Nat.zero_le _, rfl, rfl, rfl, Below.refl _ _⟩
  case round =>
    obtain ⟨k, c, hk, rfl, rfl, HC, hbel⟩ := hrel
    by_cases hlt : k < ps.length
    · obtain ⟨rfl, hgs, _⟩ := hg (by omega)
      have hmod : (k + 1) % ps.length < ps.length := Nat.mod_lt _ (by omega)
      obtain ⟨c0, c1⟩ := hc k hlt
      obtain ⟨c2, c3⟩ := hc _ hmod
      have d0 : wr.cell? ⟨g, k * 2, none⟩ = some (.int .i64 ps[k].1) := (hbel.cell (by exact hgs)).trans c0
      have d1 : wr.cell? ⟨g, k * 2 + 1, none⟩ = some (.int .i64 ps[k].2) := (hbel.cell (by exact hgs)).trans c1
      have d2 : wr.cell? ⟨g, (k + 1) % ps.length * 2, none⟩ = some (.int .i64 ps[(k + 1) % ps.length].1) := (hbel.cell (by exact hgs)).trans c2
      have d3 : wr.cell? ⟨g, (k + 1) % ps.length * 2 + 1, none⟩ = some (.int .i64 ps[(k + 1) % ps.length].2) := (hbel.cell (by exact hgs)).trans c3
      have hgw : g < wr.heap.size := Nat.lt_of_lt_of_le hgs hbel.size
      obtain ⟨a, ha⟩ : ∃ a, a = ps[k] := ⟨_, rfl⟩
      obtain ⟨b, hb⟩ : ∃ b, b = ps[(k + 1) % ps.length] := ⟨_, rfl⟩
      rw [← ha] at d0 d1
      rw [← hb] at d2 d3
      have hna : Near a := by rw [ha]; exact hn _ (List.getElem_mem _)
      have hnb : Near b := by rw [hb]; exact hn _ (List.getElem_mem _)
      have HAB : Hid (a = ps[k] ∧ b = (rotL ps)[k]'(by rw [rot_len]; exact hlt)) := ⟨ha, hb.trans (rot_get hlt).symm⟩
      obtain ⟨j, hj⟩ : ∃ j, j = (k + 1) % ps.length := ⟨_, rfl⟩
      rw [← hj] at d2 d3
      have hjl : j < ps.length := by rw [hj]; exact hmod
      have hji : ((k : Int) + 1).tmod (ps.length : Int) = (j : Int) := by rw [hj, Int.tmod_eq_emod_of_nonneg (by omega)]; simp
      clear c0 c1 c2 c3 hc ha hb hj hmod
      go_wp2_with fail
      go_cut [5, 6] (fun s3 s4 wc => ∃ g3 g4 : Nat, s3 = .pointer (some ⟨g3, 0, none⟩) ∧ s4 = .pointer (some ⟨g4, 0, none⟩) ∧ Blk wc g3 #[.int .i64 a.1, .int .i64 a.2] 25 ∧ Blk wc g4 #[.int .i64 b.1, .int .i64 b.2] 25 ∧ Below w.heap.size w wc)
      case first =>
        have a0 : ∀ o, (wr.alloc o).cell? ⟨g, k * 2, none⟩ = some (.int .i64 a.1) := fun o => by rw [World.cell?_alloc_past _ _ _ hgw]; exact d0
        have a1 : ∀ o, (wr.alloc o).cell? ⟨g, k * 2 + 1, none⟩ = some (.int .i64 a.2) := fun o => by rw [World.cell?_alloc_past _ _ _ hgw]; exact d1
        have a2 : ∀ o, (wr.alloc o).cell? ⟨g, j * 2, none⟩ = some (.int .i64 b.1) := fun o => by rw [World.cell?_alloc_past _ _ _ hgw]; exact d2
        have a3 : ∀ o, (wr.alloc o).cell? ⟨g, j * 2 + 1, none⟩ = some (.int .i64 b.2) := fun o => by rw [World.cell?_alloc_past _ _ _ hgw]; exact d3
        go_region
        all_goals go_wp2_with fail
        all_goals go_meet
        · refine ⟨_, _, rfl, rfl, ((Blk.new wr #[.int .i64 a.1, .int .i64 a.2] 25).alloc _).drew, ?_, ((hbel.alloc hbel.size _).alloc (by have := hbel.size; simp; omega) _).drew⟩
          have hh := Blk.new (wr.alloc (.cells #[.int .i64 a.1, .int .i64 a.2] 25)) #[.int .i64 b.1, .int .i64 b.2] 25
          simp only [World.size_alloc] at hh
          exact hh.drew
        · refine ⟨_, _, rfl, rfl, ?_, ((Blk.new wr #[.int .i64 b.1, .int .i64 b.2] 25).alloc _).drew, ((hbel.alloc hbel.size _).alloc (by have := hbel.size; simp; omega) _).drew⟩
          have hh := Blk.new (wr.alloc (.cells #[.int .i64 b.1, .int .i64 b.2] 25)) #[.int .i64 a.1, .int .i64 a.2] 25
          simp only [World.size_alloc] at hh
          exact hh.drew
      case rest =>
        obtain ⟨g3, g4, rfl, rfl, b3, b4, hbc⟩ := hcut
        clear d0 d1 d2 d3 hgw hji hjl
        have x0 : wc.cell? ⟨g3, 0, none⟩ = some (.int .i64 a.1) := b3.cell 0
        have x1 : wc.cell? ⟨g3, 1, none⟩ = some (.int .i64 a.2) := b3.cell 1
        have y0 : wc.cell? ⟨g4, 0, none⟩ = some (.int .i64 b.1) := b4.cell 0
        have y1 : wc.cell? ⟨g4, 1, none⟩ = some (.int .i64 b.2) := b4.cell 1
        have hareaw := area_wrap (c := c) hna hnb
        have hcb : -4000000000000 ≤ c ∧ c ≤ 4000000000000 := by
          have h := area_bd ((rotL ps).take k) (ps.headD (0, 0)) hnh (fun p hp => hnr p (List.mem_of_mem_take hp))
          rw [← HC.out, List.length_take] at h
          omega
        have hareaw := hareaw hcb
        go_wp2_with fail
        clear x0 x1 y0 y1 b3 b4
        have HN : Hid (areaR (ps.headD (0, 0)) ((rotL ps).take (k + 1)) = c + areaP a b) := by
          show _ = _
          rw [List.take_succ_eq_append_getElem (by rw [rot_len]; exact hlt), area_append, ← HC.out, ← HAB.out.2]
          have hla : lastOr (ps.headD (0, 0)) ((rotL ps).take k) = a := by rw [rot_last hlt]; exact HAB.out.1.symm
          rw [hla]
          simp [areaR]
        go_wp2_with fail
        go_roundw
        case rel => exact ⟨k + 1, c + areaP a b, by omega, by go_num, by rw [← hareaw], HN.out.symm, hbc⟩
        case measure => simp [intOf]; omega
    · obtain rfl : k = ps.length := by omega
      have hW : Hid (c = areaL ps) := by
        show _ = _
        have hC := HC.out
        rw [← rot_len ps, List.take_length] at hC
        exact hC
      go_wp2
      go_ret
      exact ⟨by rw [hW.out]; rfl, hbel⟩
end Go.Proofs.Ytafanlbfbfbeoaa
