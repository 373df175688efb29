/- A ring, clipped, as the thin package gives it. -/
import Derived.Test.YtlakfamodfgmcaaRg
import Derived.Test.YtlakfamodfgmcaaOf
import Derived.Test.YtlakfamodfgmcaaPlr
namespace Go.Proofs.Ytlakfamodfgmcaa
open Go.RowKit

theorem close_len (l : List (Int × Int)) : (closeL l).length ≤ l.length + 1 := by
  unfold closeL
  split
  · omega
  · cases l <;> simp

theorem ring_len (lx ly hx hy : Int) (ps : List (Int × Int)) : (ringL lx ly hx hy ps).length ≤ 16 * ps.length + 1 := by
  have h0 := close_len (sidesL lx ly hx hy ps)
  have h1 : (passL lx ly hx hy 1 ps).length ≤ _ := clip_len _ _ _ _
  have h2 : (passL lx ly hx hy 2 (passL lx ly hx hy 1 ps)).length ≤ _ := clip_len _ _ _ _
  have h3 : (passL lx ly hx hy 4 (passL lx ly hx hy 2 (passL lx ly hx hy 1 ps))).length ≤ _ := clip_len _ _ _ _
  have h4 : (sidesL lx ly hx hy ps).length ≤ _ := clip_len _ _ _ _
  unfold ringL
  omega

/-- What a ring is to be. -/
structure RingOk (ps : List (Int × Int)) : Prop where
  len : ps.length ≤ 2000
  near : ∀ p ∈ ps, Near p
  octi : OctiR ps
  closed : ps.head? = ps.getLast?

set_option maxRecDepth 100000 in
set_option maxHeartbeats 400000 in
theorem clipRing_any (lx ly hx hy : Int) (hl : Near (lx, ly)) (hh : Near (hx, hy)) (h1 : lx ≤ hx) (h2 : ly ≤ hy) (ao : Option Addr) (cap : Nat) (ps : List (Int × Int)) (B : Nat) (w : World) (hB : B ≤ w.heap.size) (hk : RingOk ps)
    (h : w.ownsRow B 71 2 (.slice ao ps.length cap) ps.length (ps.flatMap ptE)) :
    Calls Try.prog 41 #[.agg #[.float .f64 (F lx), .float .f64 (F ly), .float .f64 (F hx), .float .f64 (F hy)], .slice ao ps.length cap] w
      fun e w' => ∃ ao' cap', e = .returned (.slice ao' (ringL lx ly hx hy ps).length cap') ∧ (ringL lx ly hx hy ps = [] → ao' = none) ∧ w'.ownsRow B 71 2 (.slice ao' (ringL lx ly hx hy ps).length cap') (ringL lx ly hx hy ps).length ((ringL lx ly hx hy ps).flatMap ptE) ∧ Below B w w' ∧ Apart w w' (.slice ao ps.length cap) (.slice ao' (ringL lx ly hx hy ps).length cap') := by
  have hring := fun W hW hr => ring_any lx ly hx hy hl hh h1 h2 ao cap ps B W hW hk.len hk.near hk.octi hk.closed hr
  generalize ringL lx ly hx hy ps = rs at *
  go_enter Try.func41, Try.ntmps41
  go_wp2_with fail
  refine (hring _ (by simp; omega) (h.alloc _)).mono ?_
  rintro e w1 ⟨ao1, cap1, rfl, ho1, hb1, hp1, hp2⟩
  have hb2 : Below B w w1 := ((Below.refl _ _).alloc hB _).trans hb1
  have hp3 : ∀ k, k < w.heap.size → (Value.slice ao ps.length cap).ownBlock ≠ some k → w1.heap[k]? = w.heap[k]? := fun k hk hu => by
    rw [hp1 k (by simp; omega) hu, Below.heap_alloc w _ k hk]
  have hp4 : ∀ g, (Value.slice ao1 rs.length cap1).ownBlock = some g → (Value.slice ao ps.length cap).ownBlock = some g ∨ w.heap.size ≤ g := fun g hg => by
    rcases hp2 g hg with h | h
    · exact .inl h
    · simp at h; right; omega
  clear hb1 h hring hp1 hp2
  by_cases hz : rs = []
  · subst hz
    go_wp2
    go_ret
    exact ⟨none, 0, rfl, by simp, World.ownsRow_nil _ _ _ _, hb2, hp3, by simp [Value.ownBlock]⟩
  · have hp : 0 < rs.length := List.length_pos_iff.2 hz
    go_wp2
    go_ret
    exact ⟨_, _, rfl, fun h => absurd h hz, ho1, hb2, hp3, hp4⟩

set_option maxRecDepth 100000 in
set_option maxHeartbeats 400000 in
theorem implRing_any (lx ly hx hy : Int) (hl : Near (lx, ly)) (hh : Near (hx, hy)) (h1 : lx ≤ hx) (h2 : ly ≤ hy) (ao : Option Addr) (cap : Nat) (ps : List (Int × Int)) (B : Nat) (w : World) (hk : RingOk ps)
    (h : w.ownsRow B 38 2 (.slice ao ps.length cap) ps.length (ps.flatMap ptE)) :
    Calls Try.prog 23 #[.agg #[.float .f64 (F lx), .float .f64 (F ly), .float .f64 (F hx), .float .f64 (F hy)], .slice ao ps.length cap] w
      fun e w' => ∃ ao' cap', e = .returned (.slice ao' (ringL lx ly hx hy ps).length cap') ∧ w'.ownsRow w.heap.size 38 2 (.slice ao' (ringL lx ly hx hy ps).length cap') (ringL lx ly hx hy ps).length ((ringL lx ly hx hy ps).flatMap ptE) ∧ Below w.heap.size w w' := by
  have hlf : (ringL lx ly hx hy ps).length ≤ 100000000 := by have := ring_len lx ly hx hy ps; have := hk.len; omega
  have hlp : ps.length ≤ 100000000 := by have := hk.len; omega
  go_enter Try.func23, Try.ntmps23
  go_wp2_with fail
  refine (bound_any lx ly hx hy _).mono ?_
  rintro e w1 ⟨rfl, hb1⟩
  have ho1 := own_below (h.alloc (.cells #[.float .f64 (F lx), .float .f64 (F ly), .float .f64 (F hx), .float .f64 (F hy)] 40)) hb1 (Nat.le_refl _)
  have hB1 : Below w.heap.size w w1 := ((Below.refl _ _).alloc (Nat.le_refl _) _).trans (hb1.mono (by simp))
  clear hb1 h
  go_wp2_with fail
  refine (points_any ao cap ps B _ hlp ho1).mono ?_
  rintro e w2 ⟨ao2, cap2, rfl, ho2, hb2⟩
  have hB2 := hB1.trans (hb2.mono hB1.size)
  have hs2 := hb2.size
  clear ho1 hb2
  go_wp2_with fail
  refine (clipRing_any lx ly hx hy hl hh h1 h2 ao2 cap2 ps _ _ hs2 hk ho2).mono ?_
  rintro e w3 ⟨ao3, cap3, rfl, _, ho3, hb3, _⟩
  have hB3 := hB2.trans (hb3.mono hB1.size)
  clear ho2 hb3
  go_wp2_with fail
  refine (plainRing_any ao3 cap3 _ _ _ hlf ho3).mono ?_
  rintro e w4 ⟨ao4, cap4, rfl, ho4, hb4⟩
  have hB4 := hB3.trans (hb4.mono hB3.size)
  have ho5 := own_mono ho4 hB3.size
  clear ho3 hb4 ho4
  go_wp2_with fail
  go_ret
  exact ⟨_, _, rfl, ho5, hB4⟩
end Go.Proofs.Ytlakfamodfgmcaa
