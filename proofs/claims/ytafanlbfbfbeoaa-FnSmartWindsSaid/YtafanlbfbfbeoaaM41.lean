/- What the proofs over smartclip lean on, part 42 of 48. -/
import Derived.Test.YtafanlbfbfbeoaaM02
import Derived.Test.YtafanlbfbfbeoaaM40
import Derived.Test.YtafanlbfbfbeoaaM39
import Derived.Test.YtafanlbfbfbeoaaM37

/- How often doubled rings go around a point, and whether as often as others. -/
namespace Go.Proofs.Ytafanlbfbfbeoaa
open Go.RowKit

/-- Near, and doubled. -/
def NearD (p : Int × Int) : Prop := (-6000 ≤ p.1 ∧ p.1 ≤ 6000) ∧ -6000 ≤ p.2 ∧ p.2 ≤ 6000

theorem Near.dbl {p : Int × Int} (h : Near p) : NearD p ∧ NearD (2 * p.1, 2 * p.2) := by
  unfold Near at h
  unfold NearD
  simp only
  omega

def leftIJ (X Y : Int) (a b : Int × Int) : Int := (2 * b.1 - 2 * a.1) * (4 * Y + 1 - 2 * a.2) - (4 * X + 2 - 2 * a.1) * (2 * b.2 - 2 * a.2)

/-- What a line counts. -/
def crossIJ (X Y : Int) (a b : Int × Int) : Int :=
  (if 2 * a.2 ≤ 4 * Y + 1 ∧ 4 * Y + 1 < 2 * b.2 ∧ 0 < leftIJ X Y a b then 1 else 0) + (if 4 * Y + 1 < 2 * a.2 ∧ 2 * b.2 ≤ 4 * Y + 1 ∧ leftIJ X Y a b < 0 then -1 else 0)

/-- All the lines of a chain. -/
def chainIJ (X Y : Int) : Int × Int → List (Int × Int) → Int
  | _, [] => 0
  | q, p :: ps => crossIJ X Y q p + chainIJ X Y p ps

def windIJ (X Y : Int) (ps : List (Int × Int)) : Int := chainIJ X Y (lastOr (0, 0) ps) ps

theorem chain_appendJ (X Y : Int) : ∀ (a b : List (Int × Int)) (q : Int × Int), chainIJ X Y q (a ++ b) = chainIJ X Y q a + chainIJ X Y (lastOr q a) b
  | [], b, q => by simp [chainIJ, lastOr]
  | x :: a, b, q => by rw [List.cons_append, chainIJ, chainIJ, chain_appendJ X Y a b x, lastOr_cons]; omega

theorem rot_windsJ (X Y : Int) {ps : List (Int × Int)} (h : 0 < ps.length) : chainIJ X Y ps[0] (rotL ps) = windIJ X Y ps := by
  cases ps with
  | nil => simp at h
  | cons p ps =>
    show chainIJ X Y p (ps ++ [p]) = _
    unfold windIJ
    rw [chain_appendJ, lastOr_cons]
    show _ = crossIJ X Y (lastOr p ps) p + chainIJ X Y p ps
    rw [chainIJ, chainIJ]
    omega

theorem cross_bdJ (X Y : Int) (a b : Int × Int) : -1 ≤ crossIJ X Y a b ∧ crossIJ X Y a b ≤ 1 := by
  unfold crossIJ
  split <;> split <;> omega

theorem chain_bdJ (X Y : Int) : ∀ (l : List (Int × Int)) (q : Int × Int), -(l.length : Int) ≤ chainIJ X Y q l ∧ chainIJ X Y q l ≤ l.length
  | [], q => by simp [chainIJ]
  | p :: l, q => by
    have h1 := cross_bdJ X Y q p
    have h2 := chain_bdJ X Y l p
    simp only [chainIJ, List.length_cons]
    omega

theorem left_wrapJ {X Y : Int} {a b : Int × Int} (hX : -128 ≤ X ∧ X ≤ 128) (hY : -128 ≤ Y ∧ Y ≤ 128) (ha : NearD a) (hb : NearD b) :
    wrap64 (wrap64 ((2 * b.1 - 2 * a.1) * (4 * Y + 1 - 2 * a.2)) - wrap64 ((4 * X + 2 - 2 * a.1) * (2 * b.2 - 2 * a.2))) = leftIJ X Y a b := by
  obtain ⟨⟨n1, n2⟩, n3, n4⟩ := ha
  obtain ⟨⟨n5, n6⟩, n7, n8⟩ := hb
  have m1 := prod_bd (p := 2 * b.1 - 2 * a.1) (q := 4 * Y + 1 - 2 * a.2) (by omega) (by omega)
  have m2 := prod_bd (p := 4 * X + 2 - 2 * a.1) (q := 2 * b.2 - 2 * a.2) (by omega) (by omega)
  unfold leftIJ
  generalize (2 * b.1 - 2 * a.1) * (4 * Y + 1 - 2 * a.2) = P at *
  generalize (4 * X + 2 - 2 * a.1) * (2 * b.2 - 2 * a.2) = R at *
  have w1 : wrap64 P = P := by simp only [wrap64]; omega
  have w2 : wrap64 R = R := by simp only [wrap64]; omega
  rw [w1, w2]
  simp only [wrap64]; omega

set_option maxRecDepth 100000 in
set_option maxHeartbeats 2000000 in
theorem winds_anyJ (X Y : Int) (hX : -128 ≤ X ∧ X ≤ 128) (hY : -128 ≤ Y ∧ Y ≤ 128) (ao : Option Addr) (cap : Nat) (ps : List (Int × Int)) (B : Nat) (w : World) (hl : ps.length ≤ 100000) (hn : ∀ p ∈ ps, NearD p) (h : w.ownsRow B 25 2 (.slice ao ps.length cap) ps.length (ps.flatMap spotE)) :
    Calls Try.prog 36 #[.slice ao ps.length cap, .int .i64 (4 * X + 2), .int .i64 (4 * Y + 1), .int .i64 2] w
      fun e w' => e = .returned (.int .i64 (windIJ X Y ps)) ∧ Below w.heap.size w w' := by
  obtain ⟨g, hg, hc⟩ := spots_read h
  clear h
  go_enter Try.func36, Try.ntmps36
  go_wp2_with fail
  go_loopw [9, 20] (fun v i wr => ∃ (k : Nat) (c : Int), k ≤ ps.length ∧ i = .int .i64 k ∧ v = .int .i64 c ∧ Hid (c = chainIJ X Y (ps.headD (0, 0)) ((rotL ps).take k)) ∧ Below w.heap.size w wr)
    (fun _ i _ => ps.length - (intOf i).toNat)
  case atStart => exact ⟨0, 0, Nat.zero_le _, rfl, rfl, rfl, Below.refl _ _⟩
  case round =>
    obtain ⟨k, c, hk, rfl, rfl, HC, hbel⟩ := hrel
    by_cases hlt : k < ps.length
    · obtain ⟨rfl, hgs, _⟩ := hg (by omega)
      have hmod : (k + 1) % ps.length < ps.length := Nat.mod_lt _ (by omega)
      obtain ⟨c0, c1⟩ := hc k hlt
      obtain ⟨c2, c3⟩ := hc _ hmod
      have d0 : wr.cell? ⟨g, k * 2, none⟩ = some (.int .i64 ps[k].1) := (hbel.cell (by exact hgs)).trans c0
      have d1 : wr.cell? ⟨g, k * 2 + 1, none⟩ = some (.int .i64 ps[k].2) := (hbel.cell (by exact hgs)).trans c1
      have d2 : wr.cell? ⟨g, (k + 1) % ps.length * 2, none⟩ = some (.int .i64 ps[(k + 1) % ps.length].1) := (hbel.cell (by exact hgs)).trans c2
      have d3 : wr.cell? ⟨g, (k + 1) % ps.length * 2 + 1, none⟩ = some (.int .i64 ps[(k + 1) % ps.length].2) := (hbel.cell (by exact hgs)).trans c3
      have hgw : g < wr.heap.size := Nat.lt_of_lt_of_le hgs hbel.size
      obtain ⟨a, ha⟩ : ∃ a, a = ps[k] := ⟨_, rfl⟩
      obtain ⟨b, hb⟩ : ∃ b, b = ps[(k + 1) % ps.length] := ⟨_, rfl⟩
      rw [← ha] at d0 d1
      rw [← hb] at d2 d3
      have hna : NearD a := by rw [ha]; exact hn _ (List.getElem_mem _)
      have hnb : NearD b := by rw [hb]; exact hn _ (List.getElem_mem _)
      have HAB : Hid (a = ps[k] ∧ b = (rotL ps)[k]'(by rw [rot_len]; exact hlt)) := ⟨ha, hb.trans (rot_get hlt).symm⟩
      obtain ⟨j, hj⟩ : ∃ j, j = (k + 1) % ps.length := ⟨_, rfl⟩
      rw [← hj] at d2 d3
      have hjl : j < ps.length := by rw [hj]; exact hmod
      have hji : ((k : Int) + 1).tmod (ps.length : Int) = (j : Int) := by rw [hj, Int.tmod_eq_emod_of_nonneg (by omega)]; simp
      clear c0 c1 c2 c3 hc ha hb hj hmod
      go_wp2_with fail
      go_cut [11, 12] (fun s3 s4 wc => ∃ g3 g4 : Nat, s3 = .pointer (some ⟨g3, 0, none⟩) ∧ s4 = .pointer (some ⟨g4, 0, none⟩) ∧ Blk wc g3 #[.int .i64 a.1, .int .i64 a.2] 25 ∧ Blk wc g4 #[.int .i64 b.1, .int .i64 b.2] 25 ∧ Below w.heap.size w wc)
      case first =>
        have a0 : ∀ o, (wr.alloc o).cell? ⟨g, k * 2, none⟩ = some (.int .i64 a.1) := fun o => by rw [World.cell?_alloc_past _ _ _ hgw]; exact d0
        have a1 : ∀ o, (wr.alloc o).cell? ⟨g, k * 2 + 1, none⟩ = some (.int .i64 a.2) := fun o => by rw [World.cell?_alloc_past _ _ _ hgw]; exact d1
        have a2 : ∀ o, (wr.alloc o).cell? ⟨g, j * 2, none⟩ = some (.int .i64 b.1) := fun o => by rw [World.cell?_alloc_past _ _ _ hgw]; exact d2
        have a3 : ∀ o, (wr.alloc o).cell? ⟨g, j * 2 + 1, none⟩ = some (.int .i64 b.2) := fun o => by rw [World.cell?_alloc_past _ _ _ hgw]; exact d3
        go_region
        all_goals go_wp2_with fail
        all_goals go_meet
        · refine ⟨_, _, rfl, rfl, ((Blk.new wr #[.int .i64 a.1, .int .i64 a.2] 25).alloc _).drew, ?_, ((hbel.alloc hbel.size _).alloc (by have := hbel.size; simp; omega) _).drew⟩
          have hh := Blk.new (wr.alloc (.cells #[.int .i64 a.1, .int .i64 a.2] 25)) #[.int .i64 b.1, .int .i64 b.2] 25
          simp only [World.size_alloc] at hh
          exact hh.drew
        · refine ⟨_, _, rfl, rfl, ?_, ((Blk.new wr #[.int .i64 b.1, .int .i64 b.2] 25).alloc _).drew, ((hbel.alloc hbel.size _).alloc (by have := hbel.size; simp; omega) _).drew⟩
          have hh := Blk.new (wr.alloc (.cells #[.int .i64 b.1, .int .i64 b.2] 25)) #[.int .i64 a.1, .int .i64 a.2] 25
          simp only [World.size_alloc] at hh
          exact hh.drew
      case rest =>
        obtain ⟨g3, g4, rfl, rfl, b3, b4, hbc⟩ := hcut
        clear d0 d1 d2 d3 hgw hji hjl
        have x0 : wc.cell? ⟨g3, 0, none⟩ = some (.int .i64 a.1) := b3.cell 0
        have x1 : wc.cell? ⟨g3, 1, none⟩ = some (.int .i64 a.2) := b3.cell 1
        have y0 : wc.cell? ⟨g4, 0, none⟩ = some (.int .i64 b.1) := b4.cell 0
        have y1 : wc.cell? ⟨g4, 1, none⟩ = some (.int .i64 b.2) := b4.cell 1
        have hleft := left_wrapJ hX hY hna hnb
        have hcb : -100000 ≤ c ∧ c ≤ 100000 := by
          have h := chain_bdJ X Y ((rotL ps).take k) (ps.headD (0, 0))
          rw [← HC.out, List.length_take] at h
          omega
        obtain ⟨⟨n1, n2⟩, n3, n4⟩ := hna
        obtain ⟨⟨n5, n6⟩, n7, n8⟩ := hnb
        go_wp2_with fail
        go_quiet (fail)
        clear x0 x1 y0 y1 b3 b4
        have HN : Hid (chainIJ X Y (ps.headD (0, 0)) ((rotL ps).take (k + 1)) = c + crossIJ X Y a b) := by
          show _ = _
          rw [List.take_succ_eq_append_getElem (by rw [rot_len]; exact hlt), chain_appendJ, ← HC.out, ← HAB.out.2]
          have hla : lastOr (ps.headD (0, 0)) ((rotL ps).take k) = a := by rw [rot_last hlt]; exact HAB.out.1.symm
          rw [hla]
          simp [chainIJ]
        go_wp2_with fail
        all_goals
          refine ⟨⟨k + 1, _, by omega, by go_num, rfl, ?_, below_drewN hbc _⟩, by simp [intOf]; omega⟩
          show _ = _
          rw [HN.out]
          unfold crossIJ
          (repeat' split) <;> omega
    · obtain rfl : k = ps.length := by omega
      have hW : Hid (c = windIJ X Y ps) := by
        show _ = _
        have hC := HC.out
        rw [← rot_len ps, List.take_length] at hC
        cases ps with
        | nil => rw [hC]; rfl
        | cons p ps => rw [hC]; exact rot_windsJ X Y (ps := p :: ps) (by simp)
      go_wp2
      go_ret
      exact ⟨by rw [hW.out]; rfl, hbel⟩

/-- How often all rings go around a point. -/
def sumWJ (X Y : Int) (xs : List (Value × List (Int × Int))) : Int := (xs.map fun x => windIJ X Y x.2).sum

theorem wind_bdJ (X Y : Int) (ps : List (Int × Int)) : -(ps.length : Int) ≤ windIJ X Y ps ∧ windIJ X Y ps ≤ ps.length := by
  cases ps with
  | nil => simp [windIJ, chainIJ]
  | cons p l =>
    have h := chain_bdJ X Y (rotL (p :: l)) (p :: l)[0]
    rw [rot_windsJ X Y (ps := p :: l) (by simp), rot_len] at h
    exact h

theorem sumW_bdJ (X Y : Int) : ∀ xs : List (Value × List (Int × Int)), (∀ x ∈ xs, x.2.length ≤ 100000) → -(xs.length * 100000 : Int) ≤ sumWJ X Y xs ∧ sumWJ X Y xs ≤ xs.length * 100000
  | [], _ => by simp [sumWJ]
  | x :: xs, h => by
    have h1 := wind_bdJ X Y x.2
    have h2 := sumW_bdJ X Y xs fun y hy => h y (by simp [hy])
    have h3 := h x (by simp)
    have h4 : sumWJ X Y (x :: xs) = windIJ X Y x.2 + sumWJ X Y xs := by simp [sumWJ]
    rw [h4, List.length_cons]
    omega

theorem sumW_snocJ (X Y : Int) {xs : List (Value × List (Int × Int))} {k : Nat} (h : k < xs.length) : sumWJ X Y (xs.take (k + 1)) = sumWJ X Y (xs.take k) + windIJ X Y xs[k].2 := by
  unfold sumWJ
  rw [List.take_succ_eq_append_getElem h, List.map_append, List.sum_append]; simp

set_option maxRecDepth 100000 in
set_option maxHeartbeats 2000000 in
theorem aroundTwice_any (lx ly hx hy : Int) (h1 : -128 ≤ lx ∧ hx ≤ 128) (h2 : -128 ≤ ly ∧ hy ≤ 128) (va vb : Value) (xs ys : List (Value × List (Int × Int))) (B B' : Nat) (w : World)
    (ha : ∀ x ∈ xs, x.2.length ≤ 100000 ∧ ∀ p ∈ x.2, NearD p) (hb : ∀ x ∈ ys, x.2.length ≤ 100000 ∧ ∀ p ∈ x.2, NearD p) (hna : xs.length ≤ 1000) (hnb : ys.length ≤ 1000)
    (hs : ∀ X Y, lx ≤ X → X < hx → ly ≤ Y → Y < hy → sumWJ X Y xs = sumWJ X Y ys)
    (hA : RowsAt w B 29 25 spotE va xs) (hB : RowsAt w B' 29 25 spotE vb ys) :
    Calls Try.prog 22 #[.agg #[.int .i64 lx, .int .i64 ly, .int .i64 hx, .int .i64 hy], va, vb] w
      fun e w' => e = .returned (.bool true) ∧ Below w.heap.size w w' := by
  obtain ⟨ao, cap, ga, rfl, hga, hca⟩ := hA.read
  obtain ⟨bo, capb, gb, rfl, hgb, hcb⟩ := hB.read
  clear hA hB
  go_enter Try.func22, Try.ntmps22
  go_wp2_with fail
  go_loopw [7] (fun vx wr => ∃ X : Int, vx = .int .i64 X ∧ lx ≤ X ∧ X ≤ max lx hx ∧ Blk wr w.heap.size #[.int .i64 lx, .int .i64 ly, .int .i64 hx, .int .i64 hy] 27 ∧ Below w.heap.size w wr)
    (fun vx _ => (hx - intOf vx).toNat)
  case atStart => exact ⟨lx, rfl, by omega, by omega, Blk.new _ _ _, (Below.refl _ _).alloc (Nat.le_refl _) _⟩
  case round =>
    obtain ⟨X, rfl, hX1, hX2, hbox, hbel⟩ := hrel
    have e0 : wr.cell? ⟨w.heap.size, 0, none⟩ = some (.int .i64 lx) := hbox.cell 0
    have e1 : wr.cell? ⟨w.heap.size, 1, none⟩ = some (.int .i64 ly) := hbox.cell 1
    have e2 : wr.cell? ⟨w.heap.size, 2, none⟩ = some (.int .i64 hx) := hbox.cell 2
    have e3 : wr.cell? ⟨w.heap.size, 3, none⟩ = some (.int .i64 hy) := hbox.cell 3
    by_cases hx1 : X < hx
    · go_wp2_with fail
      go_loopw [8] (fun vy wr => ∃ Y : Int, vy = .int .i64 Y ∧ ly ≤ Y ∧ Y ≤ max ly hy ∧ Blk wr w.heap.size #[.int .i64 lx, .int .i64 ly, .int .i64 hx, .int .i64 hy] 27 ∧ Below w.heap.size w wr)
        (fun vy _ => (hy - intOf vy).toNat)
      case atStart => exact ⟨ly, rfl, by omega, by omega, hbox, hbel⟩
      case round =>
        clear hbox hbel e0 e1 e2 e3
        obtain ⟨Y, rfl, hY1, hY2, hbox, hbel⟩ := hrel
        have e0 : wr.cell? ⟨w.heap.size, 0, none⟩ = some (.int .i64 lx) := hbox.cell 0
        have e1 : wr.cell? ⟨w.heap.size, 1, none⟩ = some (.int .i64 ly) := hbox.cell 1
        have e2 : wr.cell? ⟨w.heap.size, 2, none⟩ = some (.int .i64 hx) := hbox.cell 2
        have e3 : wr.cell? ⟨w.heap.size, 3, none⟩ = some (.int .i64 hy) := hbox.cell 3
        by_cases hy1 : Y < hy
        · have HS : Hid (sumWJ X Y xs = sumWJ X Y ys) := hs X Y hX1 hx1 hY1 hy1
          clear hs
          have hXn : -128 ≤ X ∧ X ≤ 128 := by omega
          have hYn : -128 ≤ Y ∧ Y ≤ 128 := by omega
          have hw1 : wrap64 (wrap64 (4 * X) + 2) = 4 * X + 2 := by simp only [wrap64]; omega
          have hw2 : wrap64 (wrap64 (4 * Y) + 1) = 4 * Y + 1 := by simp only [wrap64]; omega
          obtain ⟨W1, hW1⟩ : ∃ W1, W1 = wr := ⟨_, rfl⟩
          go_wp2_with fail
          clear e0 e1 e2 e3
          go_loopw [9, 36] (fun vn vi wq => ∃ (k : Nat) (c : Int), k ≤ xs.length ∧ vi = .int .i64 k ∧ vn = .int .i64 c ∧ Hid (c = sumWJ X Y (xs.take k)) ∧ Below w.heap.size w wq ∧ Blk wq w.heap.size #[.int .i64 lx, .int .i64 ly, .int .i64 hx, .int .i64 hy] 27)
            (fun _ i _ => xs.length - (intOf i).toNat)
          case atStart => exact ⟨0, 0, Nat.zero_le _, rfl, rfl, rfl, hbel, hbox⟩
          case round =>
            clear hbox hbel
            obtain ⟨k, c, hk, rfl, rfl, HC, hbel, hbox⟩ := hrel
            have hcb1 : -100000000 ≤ c ∧ c ≤ 100000000 := by
              have h := sumW_bdJ X Y (xs.take k) fun x hm => (ha x (List.mem_of_mem_take hm)).1
              rw [← HC.out, List.length_take] at h
              omega
            by_cases hlt : k < xs.length
            · obtain ⟨rfl, hgs, _⟩ := hga (by omega)
              obtain ⟨aq, cq, hv, c0, ho⟩ := hca k hlt
              have d0 : wr.cell? ⟨ga, k, none⟩ = some (.slice aq xs[k].2.length cq) := (hbel.cell (by exact hgs)).trans c0
              have ho := own_below ho hbel (Nat.le_refl _)
              have HN : Hid (sumWJ X Y (xs.take (k + 1)) = c + windIJ X Y xs[k].2) := by
                show _ = _
                rw [sumW_snocJ X Y hlt, HC.out]
              obtain ⟨hlp, hnp⟩ := ha xs[k] (List.getElem_mem _)
              obtain ⟨ps, hp⟩ : ∃ ps, ps = xs[k].2 := ⟨_, rfl⟩
              rw [← hp] at d0 ho hlp hnp HN
              have hwb := wind_bdJ X Y ps
              clear hp hv c0 hca hcb hga hgb ha hb
              go_wp2_with fail
              refine (winds_anyJ X Y hXn hYn aq cq ps _ _ hlp hnp ho).mono ?_
              rintro e w1 ⟨rfl, hb1⟩
              generalize windIJ X Y ps = z at *
              clear d0 ho
              go_wp2_with fail
              go_roundw
              case rel => exact ⟨k + 1, _, by omega, by go_num, rfl, (by show _ = _; rw [HN.out]), hbel.trans (hb1.mono hbel.size), hbox.below hb1 hbox.lt⟩
              case measure => simp [intOf]; omega
            · obtain rfl : k = xs.length := by omega
              rw [List.take_length] at HC
              have HT : Hid (c = sumWJ X Y ys) := HC.out.trans HS.out
              clear HC HS
              go_wp2_with fail
              go_loopw [9, 53] (fun vn vi wq => ∃ (k : Nat) (c : Int), k ≤ ys.length ∧ vi = .int .i64 k ∧ vn = .int .i64 c ∧ Hid (c = sumWJ X Y ys - sumWJ X Y (ys.take k)) ∧ Below w.heap.size w wq ∧ Blk wq w.heap.size #[.int .i64 lx, .int .i64 ly, .int .i64 hx, .int .i64 hy] 27)
                (fun _ i _ => ys.length - (intOf i).toNat)
              case atStart => exact ⟨0, c, Nat.zero_le _, rfl, rfl, by show _ = _; rw [HT.out]; simp [sumWJ], hbel, hbox⟩
              case round =>
                clear hbox hbel hcb1 HT
                obtain ⟨k, u, hk, rfl, rfl, HC, hbel, hbox⟩ := hrel
                have hcb1 : -200000000 ≤ u ∧ u ≤ 200000000 := by
                  have h := sumW_bdJ X Y (ys.take k) fun x hm => (hb x (List.mem_of_mem_take hm)).1
                  have h' := sumW_bdJ X Y ys fun x hm => (hb x hm).1
                  have hC := HC.out
                  rw [List.length_take] at h
                  omega
                by_cases hlt : k < ys.length
                · obtain ⟨rfl, hgs, _⟩ := hgb (by omega)
                  obtain ⟨aq, cq, hv, c0, ho⟩ := hcb k hlt
                  have d0 : wr.cell? ⟨gb, k, none⟩ = some (.slice aq ys[k].2.length cq) := (hbel.cell (by exact hgs)).trans c0
                  have ho := own_below ho hbel (Nat.le_refl _)
                  have HN : Hid (sumWJ X Y ys - sumWJ X Y (ys.take (k + 1)) = u - windIJ X Y ys[k].2) := by
                    show _ = _
                    rw [sumW_snocJ X Y hlt, HC.out]; omega
                  obtain ⟨hlp, hnp⟩ := hb ys[k] (List.getElem_mem _)
                  obtain ⟨ps, hp⟩ : ∃ ps, ps = ys[k].2 := ⟨_, rfl⟩
                  rw [← hp] at d0 ho hlp hnp HN
                  have hwb := wind_bdJ X Y ps
                  clear hp hv c0 hca hcb hga hgb ha hb
                  go_wp2_with fail
                  refine (winds_anyJ X Y hXn hYn aq cq ps _ _ hlp hnp ho).mono ?_
                  rintro e w1 ⟨rfl, hb1⟩
                  generalize windIJ X Y ps = z at *
                  clear d0 ho
                  go_wp2_with fail
                  go_roundw
                  case rel => exact ⟨k + 1, _, by omega, by go_num, rfl, (by show _ = _; rw [HN.out]), hbel.trans (hb1.mono hbel.size), hbox.below hb1 hbox.lt⟩
                  case measure => simp [intOf]; omega
                · obtain rfl : k = ys.length := by omega
                  obtain rfl : u = 0 := by have h := HC.out; rw [List.take_length] at h; omega
                  clear HC
                  go_wp2_with fail
                  go_roundw
                  case rel => exact ⟨Y + 1, by go_num, by omega, by omega, hbox, hbel⟩
                  case measure => simp [intOf]; omega
        · go_wp2_with fail
          go_roundw
          case rel => exact ⟨X + 1, by go_num, by omega, by omega, hbox, hbel⟩
          case measure => simp [intOf]; omega
    · go_wp2_with fail
      go_ret
      exact ⟨rfl, hbel⟩
end Go.Proofs.Ytafanlbfbfbeoaa

/- The rings of several polygons, gathered in one slice; the laws' ring. -/
namespace Go.Proofs.Ytafanlbfbfbeoaa
open Go.RowKit

structure Gather (w : World) (B : Nat) (v : Value) (n : Nat) (zs : List (Value × List (Int × Int))) (pv : Value) (qs : List (Value × List (Value × List (Int × Int)))) : Prop where
  own : w.ownsRow B 43 1 v n (zs.map Prod.fst)
  rows : ∀ z ∈ zs, RowAt w 39 hE z.1 z.2
  pol : PolysAt w 0 46 43 39 hE pv qs
  sep : ∀ x ∈ qs, ∀ g, x.1.ownBlock = some g → v.ownBlock ≠ some g

section
variable {w w' : World} {B : Nat} {v pv : Value} {n : Nat} {zs : List (Value × List (Int × Int))} {qs : List (Value × List (Value × List (Int × Int)))}

theorem Gather.below (h : Gather w B v n zs pv qs) (hb : Below w.heap.size w w') : Gather w' B v n zs pv qs :=
  ⟨own_below h.own hb (Nat.le_refl _), fun z hz => (h.rows z hz).below hb (Nat.le_refl _), h.pol.below hb (Nat.le_refl _), h.sep⟩

theorem Gather.push (h : Gather w B v n zs pv qs) {g2 cap2 : Nat} {y : Value × List (Int × Int)} (hgr : w.grownBy w' v.ownBlock) (hat : v.ownBlock = some g2 ∨ g2 = w.heap.size) (hy : RowAt w 39 hE y.1 y.2)
    (hown : w'.ownsRow B 43 1 (.slice (some ⟨g2, 0, none⟩) (n + 1) cap2) (n + 1) (zs.map Prod.fst ++ [y.1])) : Gather w' B (.slice (some ⟨g2, 0, none⟩) (n + 1) cap2) (n + 1) (zs ++ [y]) pv qs := by
  obtain ⟨ao, cap, hpv, ho, hq⟩ := h.pol
  have hrow : ∀ {u : Value} {ps : List (Int × Int)}, RowAt w 39 hE u ps → RowAt w' 39 hE u ps := fun hr => hr.kept hgr fun g hg e => by
    obtain ⟨_, c, hc⟩ := row_block' hr g hg
    obtain ⟨c2, hc2⟩ := own_block h.own e
    rw [hc] at hc2
    simp at hc2
  have hin : ∀ x ∈ qs, ∀ g, x.1.ownBlock = some g → g < w.heap.size := fun x hx g hg => by
    obtain ⟨a, c, hv, hoo, _⟩ := hq x hx
    rw [hv] at hg
    exact (hoo.lt g hg).2
  refine ⟨by rw [List.map_append]; exact hown, fun z hz => ?_, ⟨ao, cap, hpv, own_kept ho hgr fun g hg e => ?_, fun x hx => ?_⟩, fun x hx g hg => ?_⟩
  · rcases List.mem_append.1 hz with hz | hz
    · exact hrow (h.rows z hz)
    · rw [List.mem_singleton.1 hz]; exact hrow hy
  · obtain ⟨c, hc⟩ := own_block ho hg
    obtain ⟨c2, hc2⟩ := own_block h.own e
    rw [hc] at hc2
    simp at hc2
  · obtain ⟨a, c, hv, hoo, hr⟩ := hq x hx
    exact ⟨a, c, hv, own_kept hoo hgr fun g hg => h.sep x hx g (by rw [hv]; exact hg), fun f hf => hrow (hr f hf)⟩
  · show some g2 ≠ some g
    rcases hat with e | e
    · rw [← e]; exact h.sep x hx g hg
    · intro e'; injection e' with e'; have := hin x hx g hg; omega

/-- An empty slice, made ahead of the polygons. -/
theorem Gather.start {g0 : Nat} (hB : B ≤ g0) (hb : Blk w g0 #[] 43) (hp : PolysAt w 0 46 43 39 hE pv qs) (h1 : ∀ x ∈ qs, x.2.length = 1) : Gather w B (.slice (some ⟨g0, 0, none⟩) 0 0) 0 [] pv qs := by
  refine ⟨⟨by simp, .inr ⟨g0, 0, #[], rfl, hB, hb, Nat.le_refl _, by unfold maxLen; omega, by simp, by simp⟩⟩, fun z hz => by simp at hz, hp, fun x hx g hg e => ?_⟩
  have e : g0 = g := by simpa [Value.ownBlock] using e
  subst e
  obtain ⟨_, _, _, _, hq⟩ := hp
  obtain ⟨a, c, hv, hoo, _⟩ := hq x hx
  rw [h1 x hx] at hv hoo
  rcases hoo.2 with ⟨hv', h0⟩ | ⟨g', cap', cur, hv', _, hc, hle, _, hsz, _⟩
  · omega
  · rw [hv, hv'] at hg
    have hg' : g' = g0 := by simpa [Value.ownBlock] using hg
    subst hg'
    unfold Blk at hb
    rw [hb] at hc
    injection hc with hc
    injection hc with hc _ _
    rw [← hc] at hsz
    simp at hsz
    omega
end

/-- All rings of the polygons. -/
def ringsOf (qs : List (Value × List (Value × List (Int × Int)))) : List (Value × List (Int × Int)) := qs.flatMap Prod.snd

theorem ringsOf_snd : ∀ {qs : List (Value × List (Value × List (Int × Int)))} {res : List (List (Int × Int))}, qs.map (fun x => x.2.map Prod.snd) = res.map (fun r => [r]) → (ringsOf qs).map Prod.snd = res
  | [], res, h => by
    cases res with
    | nil => rfl
    | cons r res => simp at h
  | x :: qs, res, h => by
    cases res with
    | nil => simp at h
    | cons r res =>
      rw [List.map_cons, List.map_cons] at h
      obtain ⟨h1, h2⟩ := List.cons.inj h
      unfold ringsOf
      rw [List.flatMap_cons, List.map_append, h1]
      have := ringsOf_snd h2
      unfold ringsOf at this
      rw [this]
      rfl

theorem ringsOf_take {qs : List (Value × List (Value × List (Int × Int)))} {k : Nat} (hk : k < qs.length) {y : Value × List (Int × Int)} (hy : qs[k].2 = [y]) : ringsOf (qs.take (k + 1)) = ringsOf (qs.take k) ++ [y] := by
  unfold ringsOf
  rw [List.take_succ_eq_append_getElem hk, List.flatMap_append, List.flatMap_singleton, hy]

theorem smartQ_rings {o lx ly hx hy : Int} {P0 : Int × Int} {l : List (Int × Int)} {qs : List (Value × List (Value × List (Int × Int)))} (h : SmartQ o lx ly hx hy P0 l qs) : ∃ res, SmartR o lx ly hx hy P0 l res ∧ (ringsOf qs).map Prod.snd = res := by
  obtain ⟨res, h1, h2⟩ := h
  exact ⟨res, h1, ringsOf_snd h2⟩

theorem smartQ_ok {o lx ly hx hy : Int} (ho : o = 1 ∨ o = -1) {P0 : Int × Int} {l : List (Int × Int)} (L : RingLaw lx ly hx hy P0 l) {qs : List (Value × List (Value × List (Int × Int)))} (h : SmartQ o lx ly hx hy P0 l qs) :
    (∀ x ∈ ringsOf qs, ∀ p ∈ x.2, hasB (2 * lx) (2 * ly) (2 * hx) (2 * hy) p.1 p.2 = true) ∧ (∀ x ∈ ringsOf qs, x.2.length ≤ 100000) ∧ (ringsOf qs).length ≤ 1000 := by
  obtain ⟨res, h1, h2⟩ := smartQ_rings h
  obtain ⟨r1, r2⟩ := res_ok ho L h1
  refine ⟨fun x hx => (r2 x.2 (by rw [← h2]; exact List.mem_map_of_mem hx)).2, fun x hx => (r2 x.2 (by rw [← h2]; exact List.mem_map_of_mem hx)).1, ?_⟩
  rw [← List.length_map (f := Prod.snd), h2]
  omega

/-- Rows, gathered. -/
theorem Gather.rowsAt {w : World} {B n c : Nat} {a : Option Addr} {pv : Value} {zs : List (Value × List (Int × Int))} {qs : List (Value × List (Value × List (Int × Int)))} (h : Gather w B (.slice a n c) n zs pv qs) : RowsAt w B 43 39 hE (.slice a n c) zs := by
  have hn : zs.length = n := by have := h.own.1; rw [List.length_map] at this; omega
  subst hn
  exact ⟨a, c, rfl, h.own, h.rows⟩

theorem own_keepsB {own : Nat → Prop} {w w' : World} {B : Nat} {e : TypeId} {s n : Nat} {v : Value} {xs : List Value} (hk : KeepsB own w w') (h : w.ownsRow B e s v n xs) (ho : ∀ g, v.ownBlock = some g → ¬ own g) : w'.ownsRow B e s v n xs := by
  refine ⟨h.1, ?_⟩
  rcases h.2 with hn | ⟨g, cap, cur, hv, hb', hgg, rest⟩
  · exact .inl hn
  · have hlt : g < w.heap.size := by
      rcases Nat.lt_or_ge g w.heap.size with hlt | hge
      · exact hlt
      · rw [Array.getElem?_eq_none hge] at hgg; cases hgg
    exact .inr ⟨g, cap, cur, hv, hb', (hk.block g (ho g (by rw [hv]; rfl)) hlt).trans hgg, rest⟩

/-- Rows lie apart from an empty slice's block: what is gathered there leaves them. -/
theorem rows_keepsB {w w9 W : World} {g B : Nat} {a : Option Addr} {n c : Nat} {zs : List (Value × List (Int × Int))} (hb : Blk w g #[] 43) (hbel : Below w.heap.size w w9) (ha : ∀ b, (Value.slice a n c).ownBlock = some b → b ≠ g)
    (h : RowsAt w9 B 43 39 hE (.slice a n c) zs) (hK : KeepsB (fun b => b = g) w9 W) : RowsAt W B 43 39 hE (.slice a n c) zs := by
  have hb9 : Blk w9 g #[] 43 := hb.below hbel hb.lt
  obtain ⟨a', c', hv, ho, hr⟩ := h
  injection hv with e1 e2 e3
  subst e1 e2 e3
  refine ⟨_, _, rfl, own_keepsB hK ho fun b hb' => ha b hb', fun x hx => ?_⟩
  obtain ⟨a2, c2, hv2, ho2⟩ := hr x hx
  refine ⟨a2, c2, hv2, own_keepsB hK ho2 fun b hb' e => ?_⟩
  subst e
  obtain ⟨cc, hc⟩ := own_block ho2 hb'
  unfold Blk at hb9
  rw [hb9] at hc
  simp at hc

theorem near_in {lx ly hx hy : Int} (h : (-128 ≤ lx ∧ lx < hx ∧ hx ≤ 128) ∧ -128 ≤ ly ∧ ly < hy ∧ hy ≤ 128) {p : Int × Int} (hp : hasB (2 * lx) (2 * ly) (2 * hx) (2 * hy) p.1 p.2 = true) : Near p := by
  have := hasB_iff.1 hp
  unfold Near
  omega

/-- Sums over rings with the same points. -/
theorem sumW_sndJ (X Y : Int) (xs : List (Value × List (Int × Int))) : sumWJ X Y xs = ((xs.map Prod.snd).map (windIJ X Y)).sum := by
  unfold sumWJ
  rw [List.map_map]; rfl

/-- The ring of a law. -/
theorem ringLaw_of {lx ly hx hy : Int} (hl : Near (lx, ly)) (hh : Near (hx, hy)) (h1 : lx < hx) (h2 : ly < hy) {rs : List (Int × Int)} (hrk : RingOk rs) (hs : SimpleB (stepsL rs)) (hc : ClearB lx ly hx hy rs (stepsL rs)) (hlen : rs.length ≤ 100) : ∃ P0 l, rs = P0 :: l ∧ RingLaw lx ly hx hy P0 l := by
  have hoct := ring_octi hrk
  have h4 := simple_four hrk.closed hoct hs
  have hsp := simple_simp hrk.closed hoct hs
  cases rs with
  | nil => simp at h4
  | cons P0 l =>
    refine ⟨P0, l, rfl, hl, hh, h1, h2, fun e => by subst e; simp at h4, ?_, hoct.2, hsp, hc.1, hc.2, h4, hlen, hrk.near⟩
    have := hrk.closed
    rw [List.head?_cons] at this
    unfold lastOr
    cases l with
    | nil => simp at h4
    | cons Q l =>
      rw [List.getLast?_cons_cons] at this
      rw [← this]; rfl
end Go.Proofs.Ytafanlbfbfbeoaa

/- Rings of points with whole coordinates, read back. -/
namespace Go.Proofs.Ytafanlbfbfbeoaa
open Go.RowKit

set_option maxRecDepth 100000 in
set_option maxHeartbeats 2000000 in
theorem rings_any (lx ly hx hy : Int) (h1 : -1000 ≤ lx ∧ hx ≤ 1000) (h2 : -1000 ≤ ly ∧ hy ≤ 1000) (v : Value) (xs : List (Value × List (Int × Int))) (B : Nat) (w : World)
    (hin : ∀ x ∈ xs, ∀ p ∈ x.2, hasB lx ly hx hy p.1 p.2 = true) (hl : ∀ x ∈ xs, x.2.length ≤ 100000) (hn : xs.length ≤ 1000) (h : RowsAt w B 43 39 ptE v xs) :
    Calls Try.prog 31 #[.agg #[.int .i64 lx, .int .i64 ly, .int .i64 hx, .int .i64 hy], v] w
      fun e w' => ∃ v' ys, e = .returned (.tuple #[v', .bool true]) ∧ ys.map Prod.snd = xs.map Prod.snd ∧ RowsAt w' w.heap.size 29 25 spotE v' ys ∧ Below w.heap.size w w' := by
  obtain ⟨i0, hi, hz0, hz1, hz2⟩ := info_parts Try.info29
  obtain ⟨ao, cap, g, rfl, hg, hc⟩ := h.read
  clear h
  go_enter Try.func31, Try.ntmps31
  go_wp2_with fail
  go_loopw [6, 16] (fun v i wr => ∃ (k : Nat) (ao' : Option Addr) (cap' : Nat) (ys : List (Value × List (Int × Int))), k ≤ xs.length ∧ i = .int .i64 k ∧ v = .slice ao' k cap' ∧ Hid (ys.map Prod.snd = (xs.take k).map Prod.snd ∧ ys.length = k) ∧
      wr.ownsRow (w.heap.size + 1) 29 1 (.slice ao' k cap') k (ys.map Prod.fst) ∧ (∀ y ∈ ys, RowAt wr 25 spotE y.1 y.2) ∧
      Blk wr w.heap.size #[.int .i64 lx, .int .i64 ly, .int .i64 hx, .int .i64 hy] 27 ∧ Below w.heap.size w wr)
    (fun _ i _ => xs.length - (intOf i).toNat)
  case atStart =>
    have ho0 := own_new (w.alloc (.cells #[.int .i64 lx, .int .i64 ly, .int .i64 hx, .int .i64 hy] 27)) (w.heap.size + 1) (by simp) 29 1 0 [] rfl (by omega)
    rw [World.size_alloc] at ho0
    exact ⟨0, _, _, [], Nat.zero_le _, rfl, rfl, ⟨rfl, rfl⟩, ho0, fun y hy => by simp at hy, (Blk.new _ _ _).alloc _, ((Below.refl _ _).alloc (Nat.le_refl _) _).alloc (by simp) _⟩
  case round =>
    obtain ⟨k, ao', cap', ys, hk, rfl, rfl, HY, hown, hrow, hbox, hbel⟩ := hrel
    by_cases hlt : k < xs.length
    · obtain ⟨rfl, hgs, _⟩ := hg (by omega)
      obtain ⟨aq, cq, hv, c0, ho⟩ := hc k hlt
      have d0 : wr.cell? ⟨g, k, none⟩ = some (.slice aq xs[k].2.length cq) := (hbel.cell (by exact hgs)).trans c0
      have ho := own_below ho hbel (Nat.le_refl _)
      have hip := hin xs[k] (List.getElem_mem _)
      have hlp := hl xs[k] (List.getElem_mem _)
      obtain ⟨ps, hp⟩ : ∃ ps, ps = xs[k].2 := ⟨_, rfl⟩
      rw [← hp] at d0 ho hip hlp
      have HP : Hid (ps = xs[k].2) := hp
      have hsp : ∀ p ∈ ps, (-100000 < p.1 ∧ p.1 < 100000) ∧ (-100000 < p.2 ∧ p.2 < 100000) := fun p hm => by
        have := hasB_iff.1 (hip p hm); omega
      clear hp hv c0 hc hg hl hin
      go_wp2_with fail
      refine (spots_any aq cq ps _ _ hsp (by omega) ho).mono ?_
      rintro e w1 ⟨a1, c1, rfl, ho1, hb1⟩
      have hown1 := own_below hown hb1 (Nat.le_refl _)
      have hrow1 : ∀ y ∈ ys, RowAt w1 25 spotE y.1 y.2 := fun y hm => (hrow y hm).below hb1 (Nat.le_refl _)
      have hbox1 := hbox.below hb1 hbox.lt
      have hbel1 := hbel.trans (hb1.mono hbel.size)
      have ho1 := own_mono ho1 (Nat.zero_le _)
      have hs1 := hbel1.size
      have hbl := hbox1.lt
      clear hown hrow hbox d0 ho hsp hb1 hbel
      obtain ⟨g1, hg1, hc1⟩ := spots_read ho1
      go_wp2_with fail
      go_loopw [29] (fun i wq => ∃ (j : Nat), j ≤ ps.length ∧ i = .int .i64 j ∧ Below w1.heap.size w1 wq) (fun i _ => ps.length - (intOf i).toNat)
      case atStart => exact ⟨0, Nat.zero_le _, rfl, Below.refl _ _⟩
      case round =>
        obtain ⟨j, hj, rfl, hbq⟩ := hrel
        have hsq := hbq.size
        by_cases hjl : j < ps.length
        · obtain ⟨rfl, hgs1, _⟩ := hg1 (by omega)
          obtain ⟨p0, p1⟩ := hc1 j hjl
          have p0 := (hbq.cell (by exact hgs1)).trans p0
          have p1 := (hbq.cell (by exact hgs1)).trans p1
          have hpj := hip _ (List.getElem_mem hjl)
          obtain ⟨p, hp⟩ : ∃ p, p = ps[j] := ⟨_, rfl⟩
          rw [← hp] at p0 p1 hpj
          clear hp hc1 hg1
          have e0 : wr.cell? ⟨w.heap.size, 0, none⟩ = some (.int .i64 lx) := (hbq.cell (by exact hbl)).trans (hbox1.cell 0)
          have e1 : wr.cell? ⟨w.heap.size, 1, none⟩ = some (.int .i64 ly) := (hbq.cell (by exact hbl)).trans (hbox1.cell 1)
          have e2 : wr.cell? ⟨w.heap.size, 2, none⟩ = some (.int .i64 hx) := (hbq.cell (by exact hbl)).trans (hbox1.cell 2)
          have e3 : wr.cell? ⟨w.heap.size, 3, none⟩ = some (.int .i64 hy) := (hbq.cell (by exact hbl)).trans (hbox1.cell 3)
          have hbl' : w.heap.size < wr.heap.size := by omega
          go_wp2_with fail
          refine (has_any lx ly hx hy p.1 p.2 _).mono ?_
          rintro e w2 ⟨rfl, hb2⟩
          rw [hpj]
          have hbq2 : Below w1.heap.size w1 w2 := (hbq.alloc hsq _).trans (hb2.mono (by simp; omega))
          clear e0 e1 e2 e3 p0 p1
          go_wp2_with fail
          go_roundw
          case rel => exact ⟨j + 1, by omega, by go_num, hbq2⟩
          case measure => simp [intOf]; omega
        · obtain rfl : j = ps.length := by omega
          have hownq := own_below hown1 hbq (Nat.le_refl _)
          have hrowq : ∀ y ∈ ys, RowAt wr 25 spotE y.1 y.2 := fun y hm => (hrow1 y hm).below hbq (Nat.le_refl _)
          have hboxq := hbox1.below hbq hbl
          have hbelq := hbel1.trans (hbq.mono hs1)
          have hoq := own_below ho1 hbq (Nat.le_refl _)
          clear hown1 hrow1 hbox1 hbel1 ho1 hg1 hc1
          go_wp2_with (at_builtin; refine wpList_push rfl _ _ 51 rfl 29 i0 _ 1 24 Try.underlying51 hi hz0 hz1 hz2 rfl (by decide) (by decide) w _ (w.heap.size + 1) _ k _ rfl hownq w.heap.size hbelq (by omega) (by omega) (by omega) [_] _ _ (by simp) 1 rfl rfl (by simp [Value.oneCell']) ?_)
          intro g' cap'' w3 hown3 hbel3 _ hgr _ _
          have hbox3 := (hboxq.alloc (.cells #[.slice a1 ps.length c1] 29)).grown hgr (fun e => by have := (hownq.lt _ e.symm).1; omega)
          have hrow3 : ∀ y ∈ ys ++ [(Value.slice a1 ps.length c1, ps)], RowAt w3 25 spotE y.1 y.2 := fun y hm => by
            rcases List.mem_append.1 hm with hm | hm
            · exact ((hrowq y hm).alloc _).grown (hownq.alloc _) (by decide) hgr
            · rw [List.mem_singleton.1 hm]
              exact ⟨_, _, rfl, own_grown (hoq.alloc _) (hownq.alloc _) (by decide) hgr⟩
          have hown3' : w3.ownsRow (w.heap.size + 1) 29 1 (.slice (some ⟨g', 0, none⟩) (k + 1) cap'') (k + 1) ((ys ++ [(Value.slice a1 ps.length c1, ps)]).map Prod.fst) := by rw [List.map_append]; exact hown3
          have HY3 : Hid ((ys ++ [(Value.slice a1 ps.length c1, ps)]).map Prod.snd = (xs.take (k + 1)).map Prod.snd ∧ (ys ++ [(Value.slice a1 ps.length c1, ps)]).length = k + 1) := by
            refine ⟨?_, by rw [List.length_append, HY.out.2]; rfl⟩
            rw [List.take_succ_eq_append_getElem hlt, List.map_append, List.map_append, HY.out.1, HP.out]
            rfl
          clear hown3 hgr hownq hrowq hboxq hoq
          go_wp2_with fail
          go_roundw
          case rel => exact ⟨k + 1, _, _, _, by omega, by go_num, rfl, HY3, hown3', hrow3, hbox3, hbel3⟩
          case measure => simp [intOf]; omega
    · obtain rfl : k = xs.length := by omega
      have hY2 := HY.out
      rw [List.take_length] at hY2
      have hbw := hown
      go_wp2_with fail
      go_ret2
      exact ⟨.slice ao' xs.length cap', ys, rfl, hY2.1, ⟨ao', cap', by rw [hY2.2], own_mono (by rw [hY2.2]; exact hown) (Nat.le_succ _), hrow⟩, hbel⟩
end Go.Proofs.Ytafanlbfbfbeoaa
