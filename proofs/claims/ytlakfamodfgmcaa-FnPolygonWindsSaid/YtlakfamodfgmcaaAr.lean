/- Whether rings go around each point within a box as often as others. -/
import Derived.Test.YtlakfamodfgmcaaRa
import Derived.Test.YtlakfamodfgmcaaWd
namespace Go.Proofs.Ytlakfamodfgmcaa
open Go.RowKit

/-- How often all rings go around a point. -/
def sumW (X Y : Int) (xs : List (Value × List (Int × Int))) : Int := (xs.map fun x => windI X Y x.2).sum

theorem wind_bd (X Y : Int) (ps : List (Int × Int)) : -(ps.length : Int) ≤ windI X Y ps ∧ windI X Y ps ≤ ps.length := by
  cases ps with
  | nil => simp [windI, chainI]
  | cons p l =>
    have h := chain_bd X Y (rotL (p :: l)) (p :: l)[0]
    rw [rot_winds X Y (ps := p :: l) (by simp), rot_len] at h
    exact h

theorem sumW_bd (X Y : Int) : ∀ xs : List (Value × List (Int × Int)), (∀ x ∈ xs, x.2.length ≤ 100000) → -(xs.length * 100000 : Int) ≤ sumW X Y xs ∧ sumW X Y xs ≤ xs.length * 100000
  | [], _ => by simp [sumW]
  | x :: xs, h => by
    have h1 := wind_bd X Y x.2
    have h2 := sumW_bd X Y xs fun y hy => h y (by simp [hy])
    have h3 := h x (by simp)
    have h4 : sumW X Y (x :: xs) = windI X Y x.2 + sumW X Y xs := by simp [sumW]
    rw [h4, List.length_cons]
    omega

theorem sumW_snoc (X Y : Int) {xs : List (Value × List (Int × Int))} {k : Nat} (h : k < xs.length) : sumW X Y (xs.take (k + 1)) = sumW X Y (xs.take k) + windI X Y xs[k].2 := by
  unfold sumW
  rw [List.take_succ_eq_append_getElem h, List.map_append, List.sum_append]; simp

set_option maxRecDepth 100000 in
set_option maxHeartbeats 1000000 in
theorem spotWinds_any (X Y : Int) (hX : -128 ≤ X ∧ X ≤ 128) (hY : -128 ≤ Y ∧ Y ≤ 128) (ao : Option Addr) (cap : Nat) (ps : List (Int × Int)) (B : Nat) (w : World) (hl : ps.length ≤ 100000) (hn : ∀ p ∈ ps, Near p) (h : w.ownsRow B 25 2 (.slice ao ps.length cap) ps.length (ps.flatMap spotE)) :
    Calls Try.prog 28 #[.slice ao ps.length cap, .agg #[.int .i64 X, .int .i64 Y]] w
      fun e w' => e = .returned (.int .i64 (windI X Y ps)) ∧ Below w.heap.size w w' := by
  have h1 : wrap64 (wrap64 (4 * X) + 2) = 4 * X + 2 := by simp only [wrap64]; omega
  have h2 : wrap64 (wrap64 (4 * Y) + 1) = 4 * Y + 1 := by simp only [wrap64]; omega
  go_enter Try.func28, Try.ntmps28
  go_wp2_with fail
  refine (winds_any X Y hX hY ao cap ps B _ hl hn (h.alloc _)).mono ?_
  rintro e w1 ⟨rfl, hb1⟩
  go_wp2_with fail
  go_ret
  exact ⟨rfl, ((Below.refl _ _).alloc (Nat.le_refl _) _).trans (hb1.mono (by simp))⟩

set_option maxRecDepth 100000 in
set_option maxHeartbeats 2000000 in
theorem around_any (lx ly hx hy : Int) (h1 : -128 ≤ lx ∧ hx ≤ 128) (h2 : -128 ≤ ly ∧ hy ≤ 128) (va vb : Value) (xs ys : List (Value × List (Int × Int))) (B B' : Nat) (w : World)
    (ha : ∀ x ∈ xs, x.2.length ≤ 100000 ∧ ∀ p ∈ x.2, Near p) (hb : ∀ x ∈ ys, x.2.length ≤ 100000 ∧ ∀ p ∈ x.2, Near p) (hna : xs.length ≤ 1000) (hnb : ys.length ≤ 1000)
    (hs : ∀ X Y, lx ≤ X → X < hx → ly ≤ Y → Y < hy → sumW X Y xs = sumW X Y ys)
    (hA : RowsAt w B 29 25 spotE va xs) (hB : RowsAt w B' 29 25 spotE vb ys) :
    Calls Try.prog 26 #[.agg #[.int .i64 lx, .int .i64 ly, .int .i64 hx, .int .i64 hy], va, vb] w
      fun e w' => e = .returned (.bool true) ∧ Below w.heap.size w w' := by
  obtain ⟨ao, cap, ga, rfl, hga, hca⟩ := hA.read
  obtain ⟨bo, capb, gb, rfl, hgb, hcb⟩ := hB.read
  clear hA hB
  go_enter Try.func26, Try.ntmps26
  go_wp2_with fail
  go_loopw [7] (fun vx wr => ∃ X : Int, vx = .int .i64 X ∧ lx ≤ X ∧ X ≤ max lx hx ∧ Blk wr w.heap.size #[.int .i64 lx, .int .i64 ly, .int .i64 hx, .int .i64 hy] 27 ∧ Below w.heap.size w wr)
    (fun vx _ => (hx - intOf vx).toNat)
  case atStart => exact ⟨lx, rfl, by omega, by omega, Blk.new _ _ _, (Below.refl _ _).alloc (Nat.le_refl _) _⟩
  case round =>
    obtain ⟨X, rfl, hX1, hX2, hbox, hbel⟩ := hrel
    have e0 : wr.cell? ⟨w.heap.size, 0, none⟩ = some (.int .i64 lx) := hbox.cell 0
    have e1 : wr.cell? ⟨w.heap.size, 1, none⟩ = some (.int .i64 ly) := hbox.cell 1
    have e2 : wr.cell? ⟨w.heap.size, 2, none⟩ = some (.int .i64 hx) := hbox.cell 2
    have e3 : wr.cell? ⟨w.heap.size, 3, none⟩ = some (.int .i64 hy) := hbox.cell 3
    by_cases hx1 : X < hx
    · go_wp2_with fail
      go_loopw [8] (fun vy wr => ∃ Y : Int, vy = .int .i64 Y ∧ ly ≤ Y ∧ Y ≤ max ly hy ∧ Blk wr w.heap.size #[.int .i64 lx, .int .i64 ly, .int .i64 hx, .int .i64 hy] 27 ∧ Below w.heap.size w wr)
        (fun vy _ => (hy - intOf vy).toNat)
      case atStart => exact ⟨ly, rfl, by omega, by omega, hbox, hbel⟩
      case round =>
        clear hbox hbel e0 e1 e2 e3
        obtain ⟨Y, rfl, hY1, hY2, hbox, hbel⟩ := hrel
        have e0 : wr.cell? ⟨w.heap.size, 0, none⟩ = some (.int .i64 lx) := hbox.cell 0
        have e1 : wr.cell? ⟨w.heap.size, 1, none⟩ = some (.int .i64 ly) := hbox.cell 1
        have e2 : wr.cell? ⟨w.heap.size, 2, none⟩ = some (.int .i64 hx) := hbox.cell 2
        have e3 : wr.cell? ⟨w.heap.size, 3, none⟩ = some (.int .i64 hy) := hbox.cell 3
        by_cases hy1 : Y < hy
        · have HS : Hid (sumW X Y xs = sumW X Y ys) := hs X Y hX1 hx1 hY1 hy1
          clear hs
          have hXn : -128 ≤ X ∧ X ≤ 128 := by omega
          have hYn : -128 ≤ Y ∧ Y ≤ 128 := by omega
          obtain ⟨W1, hW1⟩ : ∃ W1, W1 = wr := ⟨_, rfl⟩
          go_wp2_with fail
          clear e0 e1 e2 e3
          go_loopw [9, 36] (fun vn vi wq => ∃ (k : Nat) (c : Int), k ≤ xs.length ∧ vi = .int .i64 k ∧ vn = .int .i64 c ∧ Hid (c = sumW X Y (xs.take k)) ∧ Below w.heap.size w wq ∧ Blk wq w.heap.size #[.int .i64 lx, .int .i64 ly, .int .i64 hx, .int .i64 hy] 27)
            (fun _ i _ => xs.length - (intOf i).toNat)
          case atStart => exact ⟨0, 0, Nat.zero_le _, rfl, rfl, rfl, hbel, hbox⟩
          case round =>
            clear hbox hbel
            obtain ⟨k, c, hk, rfl, rfl, HC, hbel, hbox⟩ := hrel
            have hcb1 : -100000000 ≤ c ∧ c ≤ 100000000 := by
              have h := sumW_bd X Y (xs.take k) fun x hm => (ha x (List.mem_of_mem_take hm)).1
              rw [← HC.out, List.length_take] at h
              omega
            by_cases hlt : k < xs.length
            · obtain ⟨rfl, hgs, _⟩ := hga (by omega)
              obtain ⟨aq, cq, hv, c0, ho⟩ := hca k hlt
              have d0 : wr.cell? ⟨ga, k, none⟩ = some (.slice aq xs[k].2.length cq) := (hbel.cell (by exact hgs)).trans c0
              have ho := own_below ho hbel (Nat.le_refl _)
              have HN : Hid (sumW X Y (xs.take (k + 1)) = c + windI X Y xs[k].2) := by
                show _ = _
                rw [sumW_snoc X Y hlt, HC.out]
              obtain ⟨hlp, hnp⟩ := ha xs[k] (List.getElem_mem _)
              obtain ⟨ps, hp⟩ : ∃ ps, ps = xs[k].2 := ⟨_, rfl⟩
              rw [← hp] at d0 ho hlp hnp HN
              have hwb := wind_bd X Y ps
              clear hp hv c0 hca hcb hga hgb ha hb
              go_wp2_with fail
              refine (spotWinds_any X Y hXn hYn aq cq ps _ _ hlp hnp ho).mono ?_
              rintro e w1 ⟨rfl, hb1⟩
              generalize windI X Y ps = z at *
              clear d0 ho
              go_wp2_with fail
              go_roundw
              case rel => exact ⟨k + 1, _, by omega, by go_num, rfl, (by show _ = _; rw [HN.out]), hbel.trans (hb1.mono hbel.size), hbox.below hb1 hbox.lt⟩
              case measure => simp [intOf]; omega
            · obtain rfl : k = xs.length := by omega
              rw [List.take_length] at HC
              have HT : Hid (c = sumW X Y ys) := HC.out.trans HS.out
              clear HC HS
              go_wp2_with fail
              go_loopw [9, 50] (fun vn vi wq => ∃ (k : Nat) (c : Int), k ≤ ys.length ∧ vi = .int .i64 k ∧ vn = .int .i64 c ∧ Hid (c = sumW X Y ys - sumW X Y (ys.take k)) ∧ Below w.heap.size w wq ∧ Blk wq w.heap.size #[.int .i64 lx, .int .i64 ly, .int .i64 hx, .int .i64 hy] 27)
                (fun _ i _ => ys.length - (intOf i).toNat)
              case atStart => exact ⟨0, c, Nat.zero_le _, rfl, rfl, by show _ = _; rw [HT.out]; simp [sumW], hbel, hbox⟩
              case round =>
                clear hbox hbel hcb1 HT
                obtain ⟨k, u, hk, rfl, rfl, HC, hbel, hbox⟩ := hrel
                have hcb1 : -200000000 ≤ u ∧ u ≤ 200000000 := by
                  have h := sumW_bd X Y (ys.take k) fun x hm => (hb x (List.mem_of_mem_take hm)).1
                  have h' := sumW_bd X Y ys fun x hm => (hb x hm).1
                  have hC := HC.out
                  rw [List.length_take] at h
                  omega
                by_cases hlt : k < ys.length
                · obtain ⟨rfl, hgs, _⟩ := hgb (by omega)
                  obtain ⟨aq, cq, hv, c0, ho⟩ := hcb k hlt
                  have d0 : wr.cell? ⟨gb, k, none⟩ = some (.slice aq ys[k].2.length cq) := (hbel.cell (by exact hgs)).trans c0
                  have ho := own_below ho hbel (Nat.le_refl _)
                  have HN : Hid (sumW X Y ys - sumW X Y (ys.take (k + 1)) = u - windI X Y ys[k].2) := by
                    show _ = _
                    rw [sumW_snoc X Y hlt, HC.out]; omega
                  obtain ⟨hlp, hnp⟩ := hb ys[k] (List.getElem_mem _)
                  obtain ⟨ps, hp⟩ : ∃ ps, ps = ys[k].2 := ⟨_, rfl⟩
                  rw [← hp] at d0 ho hlp hnp HN
                  have hwb := wind_bd X Y ps
                  clear hp hv c0 hca hcb hga hgb ha hb
                  go_wp2_with fail
                  refine (spotWinds_any X Y hXn hYn aq cq ps _ _ hlp hnp ho).mono ?_
                  rintro e w1 ⟨rfl, hb1⟩
                  generalize windI X Y ps = z at *
                  clear d0 ho
                  go_wp2_with fail
                  go_roundw
                  case rel => exact ⟨k + 1, _, by omega, by go_num, rfl, (by show _ = _; rw [HN.out]), hbel.trans (hb1.mono hbel.size), hbox.below hb1 hbox.lt⟩
                  case measure => simp [intOf]; omega
                · obtain rfl : k = ys.length := by omega
                  obtain rfl : u = 0 := by have h := HC.out; rw [List.take_length] at h; omega
                  clear HC
                  go_wp2_with fail
                  go_roundw
                  case rel => exact ⟨Y + 1, by go_num, by omega, by omega, hbox, hbel⟩
                  case measure => simp [intOf]; omega
        · go_wp2_with fail
          go_roundw
          case rel => exact ⟨X + 1, by go_num, by omega, by omega, hbox, hbel⟩
          case measure => simp [intOf]; omega
    · go_wp2_with fail
      go_ret
      exact ⟨rfl, hbel⟩
end Go.Proofs.Ytlakfamodfgmcaa
