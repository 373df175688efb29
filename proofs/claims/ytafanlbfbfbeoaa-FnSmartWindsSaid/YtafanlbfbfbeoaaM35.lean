/- What the proofs over smartclip lean on, part 36 of 48. -/
import Derived.Test.YtafanlbfbfbeoaaM34

/- Whether a ring is clear of the sides of a box. -/
namespace Go.Proofs.Ytafanlbfbfbeoaa
open Go.RowKit

/-- A corner of the ring has no coordinate of a side. -/
def OffB (lx ly hx hy : Int) (p : Int × Int) : Prop := ¬ (p.1 = lx ∨ p.1 = hx ∨ p.2 = ly ∨ p.2 = hy)

/-- A step does not begin at a corner of the box. -/
def OffC (lx ly hx hy : Int) (s : (Int × Int) × (Int × Int)) : Prop := ¬ ((s.1.1 = lx ∨ s.1.1 = hx) ∧ (s.1.2 = ly ∨ s.1.2 = hy))

/-- What is told of a ring if it is called clear. -/
def ClearB (lx ly hx hy : Int) (ps : List (Int × Int)) (ss : List ((Int × Int) × (Int × Int))) : Prop := (∀ p ∈ ps, OffB lx ly hx hy p) ∧ ∀ s ∈ ss, OffC lx ly hx hy s

def ClearRet (lx ly hx hy : Int) (ps : List (Int × Int)) (ss : List ((Int × Int) × (Int × Int))) (w : World) (e : Ending) (w' : World) : Prop :=
  ∃ b : Bool, e = .returned (.bool b) ∧ (b = true → ClearB lx ly hx hy ps ss) ∧ Below w.heap.size w w'

theorem ClearRet.no {lx ly hx hy : Int} {ps : List (Int × Int)} {ss : List ((Int × Int) × (Int × Int))} {w w' : World} (h : Below w.heap.size w w') : ClearRet lx ly hx hy ps ss w (.returned (.bool false)) w' := ⟨false, rfl, fun h => (by cases h), h⟩

set_option maxRecDepth 100000 in
set_option maxHeartbeats 2000000 in
theorem clear_any (lx ly hx hy : Int) (ao : Option Addr) (cap : Nat) (ps : List (Int × Int)) (B : Nat) (w : World) (hlen : ps.length ≤ 3000) (hn : ∀ p ∈ ps, Near p) (ho : OctiL (ps.headD (0, 0)) ps)
    (h : w.ownsRow B 25 2 (.slice ao ps.length cap) ps.length (ps.flatMap spotE)) :
    Calls Try.prog 11 #[.agg #[.int .i64 lx, .int .i64 ly, .int .i64 hx, .int .i64 hy], .slice ao ps.length cap] w (ClearRet lx ly hx hy ps (stepsL ps) w) := by
  have hst := fun W hr => steps_any ao cap ps B W hlen hn (fun i hi => octi_get ho i hi) hr
  have hsl := stepsL_len hn
  generalize stepsL ps = ss at *
  obtain ⟨g, hg, hc⟩ := spots_read h
  clear ho hn
  go_enter Try.func11, Try.ntmps11
  go_wp2_with fail
  have hbx := Blk.new w #[.int .i64 lx, .int .i64 ly, .int .i64 hx, .int .i64 hy] 27
  go_loopw [13] (fun vi wr => ∃ k : Nat, k ≤ ps.length ∧ vi = .int .i64 k ∧ Blk wr w.heap.size #[.int .i64 lx, .int .i64 ly, .int .i64 hx, .int .i64 hy] 27 ∧ Below w.heap.size w wr ∧ Hid (∀ j (hj : j < ps.length), j < k → OffB lx ly hx hy ps[j])) (fun vi _ => ps.length - (intOf vi).toNat)
  case atStart => exact ⟨0, by omega, rfl, hbx, (Below.refl _ _).alloc (Nat.le_refl _) _, fun j _ h => by omega⟩
  case round =>
    clear hbx
    obtain ⟨k, hk, rfl, hbx, hbel, HK⟩ := hrel
    have f0 : wr.cell? ⟨w.heap.size, 0, none⟩ = some (.int .i64 lx) := hbx.cell 0
    have f1 : wr.cell? ⟨w.heap.size, 1, none⟩ = some (.int .i64 ly) := hbx.cell 1
    have f2 : wr.cell? ⟨w.heap.size, 2, none⟩ = some (.int .i64 hx) := hbx.cell 2
    have f3 : wr.cell? ⟨w.heap.size, 3, none⟩ = some (.int .i64 hy) := hbx.cell 3
    by_cases hlt : k < ps.length
    · obtain ⟨rfl, hgs, _⟩ := hg (by omega)
      obtain ⟨c0, c1⟩ := hc k hlt
      have d0 := (hbel.cell (by exact hgs)).trans c0
      have d1 := (hbel.cell (by exact hgs)).trans c1
      obtain ⟨p, hp⟩ : ∃ p, p = ps[k] := ⟨_, rfl⟩
      rw [← hp] at d0 d1
      have HK2 : Hid (¬ (p.1 = lx ∨ p.1 = hx ∨ p.2 = ly ∨ p.2 = hy) → ∀ j (hj : j < ps.length), j < k + 1 → OffB lx ly hx hy ps[j]) := fun h1 j hj h => by
        by_cases e : j = k
        · subst e; rw [← hp]; exact h1
        · exact HK.out j hj (by omega)
      have hbw := hbx.lt
      have hgw : g < wr.heap.size := Nat.lt_of_lt_of_le hgs hbel.size
      have hbx2 := hbx.alloc (.cells #[.int .i64 p.1, .int .i64 p.2] 25)
      have hB2 := below_alloc hbel (.cells #[.int .i64 p.1, .int .i64 p.2] 25) (Nat.le_refl _)
      have hgo : Hid (∀ wq, Below w.heap.size w wq → ClearRet lx ly hx hy ps ss w (.returned (.bool false)) wq) := fun wq h => ClearRet.no h
      clear hp c0 c1 hc hg HK hbel
      by_cases p0 : p.1 = lx
      · have e0 : (p.1 == lx) = true := by simpa using p0
        clear HK2 p0
        go_wp2_with fail
        go_ret
        exact hgo.out _ hB2
      · have e0 : (p.1 == lx) = false := by simpa using p0
        by_cases p1 : p.1 = hx
        · have e1 : (p.1 == hx) = true := by simpa using p1
          clear HK2 p0 p1
          go_wp2_with fail
          go_ret
          exact hgo.out _ hB2
        · have e1 : (p.1 == hx) = false := by simpa using p1
          by_cases p2 : p.2 = ly
          · have e2 : (p.2 == ly) = true := by simpa using p2
            clear HK2 p0 p1 p2
            go_wp2_with fail
            go_ret
            exact hgo.out _ hB2
          · have e2 : (p.2 == ly) = false := by simpa using p2
            by_cases p3 : p.2 = hy
            · have e3 : (p.2 == hy) = true := by simpa using p3
              clear HK2 p0 p1 p2 p3
              go_wp2_with fail
              go_ret
              exact hgo.out _ hB2
            · have e3 : (p.2 == hy) = false := by simpa using p3
              have HK3 : Hid (∀ j (hj : j < ps.length), j < k + 1 → OffB lx ly hx hy ps[j]) := HK2.out (by omega)
              clear HK2 p0 p1 p2 p3
              go_wp2_with fail
              go_roundw
              case rel => exact ⟨k + 1, by omega, by go_num, hbx2, hB2, HK3⟩
              case measure => simp [intOf]; omega
    · obtain rfl : k = ps.length := by omega
      have HP : Hid (∀ p ∈ ps, OffB lx ly hx hy p) := fun p hp => by
        obtain ⟨j, hj, rfl⟩ := List.mem_iff_getElem.1 hp
        exact HK.out j hj hj
      have hrow := own_below h hbel (Nat.le_refl _)
      clear HK hc hg
      go_wp2_with fail
      refine (hst _ hrow).mono ?_
      rintro e w1 ⟨ao1, cap1, rfl, _, hos, hb1⟩
      have hbx1 := hbx.below hb1 hbx.lt
      have hB1 := hbel.trans (hb1.mono hbel.size)
      obtain ⟨g2, hg2, hc2⟩ := steps_read hos
      clear hst hrow hbx hbel hb1 f0 f1 f2 f3 h
      go_wp2_with fail
      go_loopw [55] (fun vi wr => ∃ k : Nat, k ≤ ss.length ∧ vi = .int .i64 k ∧ Blk wr w.heap.size #[.int .i64 lx, .int .i64 ly, .int .i64 hx, .int .i64 hy] 27 ∧ Below w1.heap.size w1 wr ∧ Hid (∀ j (hj : j < ss.length), j < k → OffC lx ly hx hy ss[j])) (fun vi _ => ss.length - (intOf vi).toNat)
      case atStart => exact ⟨0, by omega, rfl, hbx1, Below.refl _ _, fun j _ h => by omega⟩
      case round =>
        clear hbx1
        obtain ⟨k, hk, rfl, hbx, hbel, HK⟩ := hrel
        by_cases hlt : k < ss.length
        · obtain ⟨rfl, hgs, _⟩ := hg2 (by omega)
          obtain ⟨c0, c1, c2, c3⟩ := hc2 k hlt
          have d0 := (hbel.cell (by exact hgs)).trans c0
          have d1 := (hbel.cell (by exact hgs)).trans c1
          have d2 := (hbel.cell (by exact hgs)).trans c2
          have d3 := (hbel.cell (by exact hgs)).trans c3
          obtain ⟨s, hs⟩ : ∃ s, s = ss[k] := ⟨_, rfl⟩
          rw [← hs] at d0 d1 d2 d3
          have f0 : wr.cell? ⟨w.heap.size, 0, none⟩ = some (.int .i64 lx) := hbx.cell 0
          have f1 : wr.cell? ⟨w.heap.size, 1, none⟩ = some (.int .i64 ly) := hbx.cell 1
          have f2 : wr.cell? ⟨w.heap.size, 2, none⟩ = some (.int .i64 hx) := hbx.cell 2
          have f3 : wr.cell? ⟨w.heap.size, 3, none⟩ = some (.int .i64 hy) := hbx.cell 3
          have HK2 : Hid (¬ ((s.1.1 = lx ∨ s.1.1 = hx) ∧ (s.1.2 = ly ∨ s.1.2 = hy)) → ∀ j (hj : j < ss.length), j < k + 1 → OffC lx ly hx hy ss[j]) := fun h1 j hj h => by
            by_cases e : j = k
            · subst e; rw [← hs]; exact h1
            · exact HK.out j hj (by omega)
          have hbw := hbx.lt
          have hgw : g2 < wr.heap.size := Nat.lt_of_lt_of_le hgs hbel.size
          have hbx2 := hbx.alloc (.cells #[.int .i64 s.1.1, .int .i64 s.1.2, .int .i64 s.2.1, .int .i64 s.2.2] 63)
          have hB2 := below_alloc hbel (.cells #[.int .i64 s.1.1, .int .i64 s.1.2, .int .i64 s.2.1, .int .i64 s.2.2] 63) (Nat.le_refl _)
          have hgo : Hid (∀ wq, Below w1.heap.size w1 wq → ClearRet lx ly hx hy ps ss w (.returned (.bool false)) wq) := fun wq h => ClearRet.no (hB1.trans (h.mono hB1.size))
          clear hs c0 c1 c2 c3 hc2 hg2 HK hbel hos
          by_cases p0 : s.1.1 = lx
          · have e0 : (s.1.1 == lx) = true := by simpa using p0
            by_cases p2 : s.1.2 = ly
            · have e2 : (s.1.2 == ly) = true := by simpa using p2
              clear HK2 p0 p2
              go_wp2_with fail
              go_ret
              exact hgo.out _ hB2
            · have e2 : (s.1.2 == ly) = false := by simpa using p2
              by_cases p3 : s.1.2 = hy
              · have e3 : (s.1.2 == hy) = true := by simpa using p3
                clear HK2 p0 p2 p3
                go_wp2_with fail
                go_ret
                exact hgo.out _ hB2
              · have e3 : (s.1.2 == hy) = false := by simpa using p3
                have HK3 : Hid (∀ j (hj : j < ss.length), j < k + 1 → OffC lx ly hx hy ss[j]) := HK2.out (by omega)
                clear HK2 p0 p2 p3
                go_wp2_with fail
                go_roundw
                case rel => exact ⟨k + 1, by omega, by go_num, hbx2, hB2, HK3⟩
                case measure => simp [intOf]; omega
          · have e0 : (s.1.1 == lx) = false := by simpa using p0
            by_cases p1 : s.1.1 = hx
            · have e1 : (s.1.1 == hx) = true := by simpa using p1
              by_cases p2 : s.1.2 = ly
              · have e2 : (s.1.2 == ly) = true := by simpa using p2
                clear HK2 p0 p1 p2
                go_wp2_with fail
                go_ret
                exact hgo.out _ hB2
              · have e2 : (s.1.2 == ly) = false := by simpa using p2
                by_cases p3 : s.1.2 = hy
                · have e3 : (s.1.2 == hy) = true := by simpa using p3
                  clear HK2 p0 p1 p2 p3
                  go_wp2_with fail
                  go_ret
                  exact hgo.out _ hB2
                · have e3 : (s.1.2 == hy) = false := by simpa using p3
                  have HK3 : Hid (∀ j (hj : j < ss.length), j < k + 1 → OffC lx ly hx hy ss[j]) := HK2.out (by omega)
                  clear HK2 p0 p1 p2 p3
                  go_wp2_with fail
                  go_roundw
                  case rel => exact ⟨k + 1, by omega, by go_num, hbx2, hB2, HK3⟩
                  case measure => simp [intOf]; omega
            · have e1 : (s.1.1 == hx) = false := by simpa using p1
              have HK3 : Hid (∀ j (hj : j < ss.length), j < k + 1 → OffC lx ly hx hy ss[j]) := HK2.out (by omega)
              clear HK2 p0 p1
              go_wp2_with fail
              go_roundw
              case rel => exact ⟨k + 1, by omega, by go_num, hbx2, hB2, HK3⟩
              case measure => simp [intOf]; omega
        · obtain rfl : k = ss.length := by omega
          have HY : Hid (ClearRet lx ly hx hy ps ss w (.returned (.bool true)) wr) := ⟨true, rfl, fun _ => ⟨HP.out, fun s hs => by
            obtain ⟨j, hj, rfl⟩ := List.mem_iff_getElem.1 hs
            exact HK.out j hj hj⟩, hB1.trans (hbel.mono hB1.size)⟩
          clear HK hc2 hg2 hos
          go_wp2_with fail
          go_ret
          exact HY.out
end Go.Proofs.Ytafanlbfbfbeoaa
