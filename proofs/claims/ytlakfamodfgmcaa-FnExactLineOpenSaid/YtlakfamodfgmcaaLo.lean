/- A line, clipped to an open box. -/
import Derived.Test.YtlakfamodfgmcaaLs
namespace Go.Proofs.Ytlakfamodfgmcaa
open Go.RowKit

set_option maxRecDepth 100000 in
set_option maxHeartbeats 1000000 in
theorem openBound_any (w : World) : Calls Try.prog 44 #[.bool true] w fun e w' => e = .returned (.func (Fn.func 59) #[] #[.pointer (some ⟨w.heap.size, 0, none⟩)]) ∧ Blk w' w.heap.size #[.bool true] 4 ∧ Below w.heap.size w w' := by
  go_enter Try.func44, Try.ntmps44
  go_wp2
  go_ret
  exact ⟨rfl, Blk.new _ _ _, (Below.refl _ _).alloc (Nat.le_refl _) _⟩

set_option maxRecDepth 100000 in
set_option maxHeartbeats 1000000 in
theorem openSet_any (b gp : Nat) (u : Value) (w : World) (h : Blk w b #[u] 105) (hp : Blk w gp #[.bool true] 4) :
    Calls Try.prog 59 #[.pointer (some ⟨b, 0, none⟩), .pointer (some ⟨gp, 0, none⟩)] w fun e w' => (∃ v, e = .returned v) ∧ w' = w.setCell ⟨b, 0, none⟩ (.bool true) := by
  have e0 : w.cell? ⟨gp, 0, none⟩ = some (.bool true) := hp.cell 0
  have e1 : w.cell? ⟨b, 0, none⟩ = some u := h.cell 0
  have e2 : w.frozen? ⟨b, 0, none⟩ = false := h.frozen 0
  go_enter Try.func59, Try.ntmps59
  go_wp2
  go_end0
  exact ⟨⟨_, rfl⟩, rfl⟩

set_option maxRecDepth 100000 in
set_option maxHeartbeats 1000000 in
theorem lineStringO_any (go gp : Nat) (lx ly hx hy : Int) (hl : Near (lx, ly)) (hh : Near (hx, hy)) (h1 : lx < hx) (h2 : ly < hy) (ao : Option Addr) (cap : Nat) (ps : List (Int × Int)) (B : Nat) (w : World) (hlen : ps.length ≤ 1000) (hn : ∀ p ∈ ps, Near p)
    (hoc : ∀ i (h : i + 1 < ps.length), Octi ps[i] ps[i + 1]) (hgo : w.cell? ⟨go, 0, none⟩ = some (.func (Fn.func 59) #[] #[.pointer (some ⟨gp, 0, none⟩)])) (hgl : go < w.heap.size) (hp : Blk w gp #[.bool true] 4) (h : w.ownsRow B 71 2 (.slice ao ps.length cap) ps.length (ps.flatMap ptE)) :
    Calls Try.prog 43 #[.agg #[.float .f64 (F lx), .float .f64 (F ly), .float .f64 (F hx), .float .f64 (F hy)], .slice ao ps.length cap, .slice (some ⟨go, 0, none⟩) 1 1] w
      fun e w' => ∃ v xs, e = .returned v ∧ xs.map Prod.snd = lineL true lx ly hx hy ps ∧ RowsAt w' w.heap.size 84 71 ptE v xs ∧ Below w.heap.size w w' ∧ (∀ x ∈ xs, x.2.length ≤ 2000) ∧ xs.length ≤ 1001 := by
  have hline := fun W hr => line_any true lx ly hx hy hl hh h1 h2 ao cap ps B W hlen hn hoc hr
  generalize lineL true lx ly hx hy ps = R at *
  go_enter Try.func43, Try.ntmps43
  go_wp2_with fail
  have hbox := (Blk.new w #[.float .f64 (F lx), .float .f64 (F ly), .float .f64 (F hx), .float .f64 (F hy)] 73).alloc (.cells #[.bool false] 105)
  have hopt := Blk.new (w.alloc (.cells #[.float .f64 (F lx), .float .f64 (F ly), .float .f64 (F hx), .float .f64 (F hy)] 73)) #[.bool false] 105
  rw [World.size_alloc] at hopt
  have hgpl := hp.lt
  go_loopw [19] (fun i wr => ∃ (k : Nat), k ≤ 1 ∧ i = .int .i64 k ∧ Blk wr (w.heap.size + 1) #[.bool (decide (k = 1))] 105 ∧ Blk wr w.heap.size #[.float .f64 (F lx), .float .f64 (F ly), .float .f64 (F hx), .float .f64 (F hy)] 73 ∧ Below w.heap.size w wr)
    (fun i _ => 1 - (intOf i).toNat)
  case atStart => exact ⟨0, by omega, rfl, hopt, hbox, ((Below.refl _ _).alloc (Nat.le_refl _) _).alloc (by simp) _⟩
  case round =>
    clear hbox hopt
    obtain ⟨k, hk, rfl, hopt, hbox, hbel⟩ := hrel
    by_cases hk0 : k = 0
    · subst hk0
      have e0 : wr.cell? ⟨go, 0, none⟩ = some (.func (Fn.func 59) #[] #[.pointer (some ⟨gp, 0, none⟩)]) := (hbel.cell (by exact hgl)).trans hgo
      have hset := openSet_any (w.heap.size + 1) gp _ wr hopt (hp.below hbel hgpl)
      go_wp2_with fail
      refine hset.mono ?_
      rintro e w1 ⟨⟨v, rfl⟩, rfl⟩
      have hopt2 : Blk (wr.setCell ⟨w.heap.size + 1, 0, none⟩ (.bool true)) (w.heap.size + 1) #[.bool (decide (1 = 1))] 105 := hopt.set 0 (.bool true)
      have hbox2 := hbox.setOther ⟨w.heap.size + 1, 0, none⟩ (by simp) (.bool true)
      have hbel2 : Below w.heap.size w (wr.setCell ⟨w.heap.size + 1, 0, none⟩ (.bool true)) := hbel.setCell (by simp) _
      clear hopt hbox hbel hset e0
      go_wp2_with fail
      go_roundw
      case rel => exact ⟨1, by omega, by go_num, hopt2, hbox2, hbel2⟩
      case measure => simp [intOf]
    · obtain rfl : k = 1 := by omega
      have e0 : wr.cell? ⟨w.heap.size + 1, 0, none⟩ = some (.bool true) := hopt.cell 0
      have f0 : wr.cell? ⟨w.heap.size, 0, none⟩ = some (.float .f64 (F lx)) := hbox.cell 0
      have f1 : wr.cell? ⟨w.heap.size, 1, none⟩ = some (.float .f64 (F ly)) := hbox.cell 1
      have f2 : wr.cell? ⟨w.heap.size, 2, none⟩ = some (.float .f64 (F hx)) := hbox.cell 2
      have f3 : wr.cell? ⟨w.heap.size, 3, none⟩ = some (.float .f64 (F hy)) := hbox.cell 3
      go_wp2_with fail
      refine (hline _ (own_below h hbel (Nat.le_refl _))).mono ?_
      rintro e w1 ⟨v1, x1, rfl, hx1, hr1, hb1, hl1, hn1⟩
      have hB1 : Below w.heap.size w w1 := hbel.trans (hb1.mono hbel.size)
      have hr2 := hr1.mono (B' := w.heap.size) hbel.size
      obtain ⟨ao1, cap1, g1, rfl, hg1, _⟩ := hr2.read
      clear hline hb1 hr1 h e0 f0 f1 f2 f3
      by_cases hz : x1 = []
      · have hR : Hid (R = []) := by show _ = _; rw [← hx1, hz]; rfl
        clear hx1 hr2 hl1 hg1
        subst hz
        go_wp2_with fail
        go_ret
        exact ⟨.slice none 0 0, [], rfl, hR.out.symm, ⟨none, 0, rfl, World.ownsRow_nil _ _ _ _, fun x hx => by simp at hx⟩, hB1, fun x hx => by simp at hx, by simp⟩
      · have hp : 0 < x1.length := List.length_pos_iff.2 hz
        have HX : Hid (x1.map Prod.snd = R) := hx1
        clear hx1 hg1
        go_wp2_with fail
        go_ret
        exact ⟨.slice ao1 x1.length cap1, x1, rfl, HX.out, hr2, hB1, hl1, hn1⟩

set_option maxRecDepth 100000 in
set_option maxHeartbeats 1000000 in
theorem implLineO_any (lx ly hx hy : Int) (hl : Near (lx, ly)) (hh : Near (hx, hy)) (h1 : lx < hx) (h2 : ly < hy) (ao : Option Addr) (cap : Nat) (ps : List (Int × Int)) (B : Nat) (w : World) (hlen : ps.length ≤ 1000) (hn : ∀ p ∈ ps, Near p)
    (hoc : ∀ i (h : i + 1 < ps.length), Octi ps[i] ps[i + 1]) (h : w.ownsRow B 38 2 (.slice ao ps.length cap) ps.length (ps.flatMap ptE)) :
    Calls Try.prog 27 #[.agg #[.float .f64 (F lx), .float .f64 (F ly), .float .f64 (F hx), .float .f64 (F hy)], .slice ao ps.length cap, .bool true] w
      fun e w' => ∃ v ys, e = .returned v ∧ ys.map Prod.snd = lineL true lx ly hx hy ps ∧ RowsAt w' w.heap.size 34 38 ptE v ys ∧ Below w.heap.size w w' ∧ (∀ x ∈ ys, x.2.length ≤ 2000) ∧ ys.length ≤ 1001 := by
  have hlp : ps.length ≤ 100000000 := by omega
  have hline := fun go gp ao cap B W hgo hgl hp hr => lineStringO_any go gp lx ly hx hy hl hh h1 h2 ao cap ps B W hlen hn hoc hgo hgl hp hr
  generalize lineL true lx ly hx hy ps = R at *
  go_enter Try.func27, Try.ntmps27
  go_wp2_with fail
  refine (bound_any lx ly hx hy _).mono ?_
  rintro e w1 ⟨rfl, hb1⟩
  have ho1 := own_below (h.alloc (.cells #[.float .f64 (F lx), .float .f64 (F ly), .float .f64 (F hx), .float .f64 (F hy)] 40)) hb1 (Nat.le_refl _)
  have hB1 : Below w.heap.size w w1 := ((Below.refl _ _).alloc (Nat.le_refl _) _).trans (hb1.mono (by simp))
  clear hb1 h
  go_wp2_with fail
  refine (points_any ao cap ps B _ hlp ho1).mono ?_
  rintro e w2 ⟨ao2, cap2, rfl, ho2, hb2⟩
  have hB2 := hB1.trans (hb2.mono hB1.size)
  clear ho1 hb2
  go_wp2_with fail
  refine (openBound_any _).mono ?_
  rintro e wo ⟨rfl, hbo, hbb⟩
  have ho2 := own_below ho2 hbb (Nat.le_refl _)
  have hBo := hB2.trans (hbb.mono hB2.size)
  obtain ⟨gp, hgp⟩ : ∃ gp, gp = w2.heap.size := ⟨_, rfl⟩
  rw [← hgp] at hbo ⊢
  clear hbb hgp hB2
  have hfn := Blk.new wo #[.func (Fn.func 59) #[] #[.pointer (some ⟨gp, 0, none⟩)]] 86
  have hbo2 := hbo.alloc (.cells #[.func (Fn.func 59) #[] #[.pointer (some ⟨gp, 0, none⟩)]] 86)
  have ho2 := ho2.alloc (.cells #[.func (Fn.func 59) #[] #[.pointer (some ⟨gp, 0, none⟩)]] 86)
  have hBp := below_alloc hBo (.cells #[.func (Fn.func 59) #[] #[.pointer (some ⟨gp, 0, none⟩)]] 86) (Nat.le_refl _)
  go_wp2_with fail
  refine (hline wo.heap.size gp ao2 cap2 _ _ (hfn.cell 0) (by simp) hbo2 ho2).mono ?_
  rintro e w3 ⟨v3, x3, rfl, hx3, hr3, hb3, hl3, hn3⟩
  have hB3 := hBp.trans (hb3.mono hBp.size)
  clear ho2 hb3 hline hfn hbo2 hbo hBp hBo
  go_wp2_with fail
  refine (plainLines_any v3 x3 _ _ (fun x hx => by have := hl3 x hx; omega) (by omega) hr3).mono ?_
  rintro e w4 ⟨v4, y4, rfl, hy4, hr4, hb4, _⟩
  have hB4 := hB3.trans (hb4.mono hB3.size)
  have hr5 := hr4.mono hB3.size
  have hy5 := hy4.trans hx3
  have hl4 : ∀ y ∈ y4, y.2.length ≤ 2000 := fun y hyy => by
    have hm : y.2 ∈ x3.map Prod.snd := by rw [← hy4]; exact List.mem_map_of_mem hyy
    obtain ⟨x, hxx, e⟩ := List.mem_map.1 hm
    rw [← e]; exact hl3 x hxx
  have hn4 : y4.length ≤ 1001 := by rw [← List.length_map (f := Prod.snd), hy4, List.length_map]; exact hn3
  clear hr3 hb4 hr4 hy4 hx3 hl3 hn3
  go_wp2_with fail
  go_ret
  exact ⟨_, y4, rfl, hy5, hr5, hB4, hl4, hn4⟩
end Go.Proofs.Ytlakfamodfgmcaa
