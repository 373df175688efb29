/- A line, clipped to an open box. -/
import Derived.Test.YtafanlbfbfbeoaaLs
namespace Go.Proofs.Ytafanlbfbfbeoaa
open Go.RowKit

set_option maxRecDepth 100000 in
set_option maxHeartbeats 1000000 in
theorem openBound_any (w : World) : Calls Try.prog 49 #[.bool true] w fun e w' => e = .returned (.func (Fn.func 58) #[] #[.pointer (some ⟨w.heap.size, 0, none⟩)]) ∧ Blk w' w.heap.size #[.bool true] 4 ∧ Below w.heap.size w w' := by
  go_enter Try.func49, Try.ntmps49
  go_wp2
  go_ret
  exact ⟨rfl, Blk.new _ _ _, (Below.refl _ _).alloc (Nat.le_refl _) _⟩

set_option maxRecDepth 100000 in
set_option maxHeartbeats 1000000 in
theorem openSet_any (b gp : Nat) (u : Value) (w : World) (h : Blk w b #[u] 122) (hp : Blk w gp #[.bool true] 4) :
    Calls Try.prog 58 #[.pointer (some ⟨b, 0, none⟩), .pointer (some ⟨gp, 0, none⟩)] w fun e w' => (∃ v, e = .returned v) ∧ w' = w.setCell ⟨b, 0, none⟩ (.bool true) := by
  have e0 : w.cell? ⟨gp, 0, none⟩ = some (.bool true) := hp.cell 0
  have e1 : w.cell? ⟨b, 0, none⟩ = some u := h.cell 0
  have e2 : w.frozen? ⟨b, 0, none⟩ = false := h.frozen 0
  go_enter Try.func58, Try.ntmps58
  go_wp2
  go_end0
  exact ⟨⟨_, rfl⟩, rfl⟩

set_option maxRecDepth 100000 in
set_option maxHeartbeats 1000000 in
theorem lineStringO_full (go gp : Nat) (lx ly hx hy : Int) (hl : Near (lx, ly)) (hh : Near (hx, hy)) (h1 : lx < hx) (h2 : ly < hy) (ao : Option Addr) (cap : Nat) (ps : List (Int × Int)) (B : Nat) (w : World) (hlen : ps.length ≤ 1000) (hn : ∀ p ∈ ps, Near p)
    (hoc : ∀ i (h : i + 1 < ps.length), Octi ps[i] ps[i + 1]) (hgo : w.cell? ⟨go, 0, none⟩ = some (.func (Fn.func 58) #[] #[.pointer (some ⟨gp, 0, none⟩)])) (hgl : go < w.heap.size) (hp : Blk w gp #[.bool true] 4) (h : w.ownsRow B 69 2 (.slice ao ps.length cap) ps.length (ps.flatMap ptE)) :
    Calls Try.prog 48 #[.agg #[.float .f64 (F lx), .float .f64 (F ly), .float .f64 (F hx), .float .f64 (F hy)], .slice ao ps.length cap, .slice (some ⟨go, 0, none⟩) 1 1] w
      fun e w' => ∃ v xs, e = .returned v ∧ xs.map Prod.snd = lineL true lx ly hx hy ps ∧ Lines w' w.heap.size v xs ∧ Below w.heap.size w w' ∧ (∀ x ∈ xs, x.2.length ≤ 2000) ∧ xs.length ≤ 1001 := by
  have hline := fun W hr => line_full true lx ly hx hy hl hh h1 h2 ao cap ps B W hlen hn hoc hr
  generalize lineL true lx ly hx hy ps = R at *
  go_enter Try.func48, Try.ntmps48
  go_wp2_with fail
  have hbox := (Blk.new w #[.float .f64 (F lx), .float .f64 (F ly), .float .f64 (F hx), .float .f64 (F hy)] 71).alloc (.cells #[.bool false] 122)
  have hopt := Blk.new (w.alloc (.cells #[.float .f64 (F lx), .float .f64 (F ly), .float .f64 (F hx), .float .f64 (F hy)] 71)) #[.bool false] 122
  rw [World.size_alloc] at hopt
  have hgpl := hp.lt
  go_loopw [19] (fun i wr => ∃ (k : Nat), k ≤ 1 ∧ i = .int .i64 k ∧ Blk wr (w.heap.size + 1) #[.bool (decide (k = 1))] 122 ∧ Blk wr w.heap.size #[.float .f64 (F lx), .float .f64 (F ly), .float .f64 (F hx), .float .f64 (F hy)] 71 ∧ Below w.heap.size w wr)
    (fun i _ => 1 - (intOf i).toNat)
  case atStart => exact ⟨0, by omega, rfl, hopt, hbox, ((Below.refl _ _).alloc (Nat.le_refl _) _).alloc (by simp) _⟩
  case round =>
    clear hbox hopt
    obtain ⟨k, hk, rfl, hopt, hbox, hbel⟩ := hrel
    by_cases hk0 : k = 0
    · subst hk0
      have e0 : wr.cell? ⟨go, 0, none⟩ = some (.func (Fn.func 58) #[] #[.pointer (some ⟨gp, 0, none⟩)]) := (hbel.cell (by exact hgl)).trans hgo
      have hset := openSet_any (w.heap.size + 1) gp _ wr hopt (hp.below hbel hgpl)
      go_wp2_with fail
      refine hset.mono ?_
      rintro e w1 ⟨⟨v, rfl⟩, rfl⟩
      have hopt2 : Blk (wr.setCell ⟨w.heap.size + 1, 0, none⟩ (.bool true)) (w.heap.size + 1) #[.bool (decide (1 = 1))] 122 := hopt.set 0 (.bool true)
      have hbox2 := hbox.setOther ⟨w.heap.size + 1, 0, none⟩ (by simp) (.bool true)
      have hbel2 : Below w.heap.size w (wr.setCell ⟨w.heap.size + 1, 0, none⟩ (.bool true)) := hbel.setCell (by simp) _
      clear hopt hbox hbel hset e0
      go_wp2_with fail
      go_roundw
      case rel => exact ⟨1, by omega, by go_num, hopt2, hbox2, hbel2⟩
      case measure => simp [intOf]
    · obtain rfl : k = 1 := by omega
      have e0 : wr.cell? ⟨w.heap.size + 1, 0, none⟩ = some (.bool true) := hopt.cell 0
      have f0 : wr.cell? ⟨w.heap.size, 0, none⟩ = some (.float .f64 (F lx)) := hbox.cell 0
      have f1 : wr.cell? ⟨w.heap.size, 1, none⟩ = some (.float .f64 (F ly)) := hbox.cell 1
      have f2 : wr.cell? ⟨w.heap.size, 2, none⟩ = some (.float .f64 (F hx)) := hbox.cell 2
      have f3 : wr.cell? ⟨w.heap.size, 3, none⟩ = some (.float .f64 (F hy)) := hbox.cell 3
      go_wp2_with fail
      refine (hline _ (own_below h hbel (Nat.le_refl _))).mono ?_
      rintro e w1 ⟨v1, x1, rfl, hx1, hr1, hb1, hl1, hn1⟩
      have hB1 : Below w.heap.size w w1 := hbel.trans (hb1.mono hbel.size)
      have hr2 := hr1.mono (B' := w.heap.size) hbel.size
      obtain ⟨ao1, cap1, g1, rfl, hg1, _⟩ := hr2.rows.read
      clear hline hb1 hr1 h e0 f0 f1 f2 f3
      by_cases hz : x1 = []
      · have hR : Hid (R = []) := by show _ = _; rw [← hx1, hz]; rfl
        clear hx1 hr2 hl1 hg1
        subst hz
        go_wp2_with fail
        go_ret
        exact ⟨.slice none 0 0, [], rfl, hR.out.symm, ⟨⟨none, 0, rfl, World.ownsRow_nil _ _ _ _, fun x hx => by simp at hx⟩, ⟨fun x hx => by simp at hx, .nil⟩⟩, hB1, fun x hx => by simp at hx, by simp⟩
      · have hp : 0 < x1.length := List.length_pos_iff.2 hz
        have HX : Hid (x1.map Prod.snd = R) := hx1
        clear hx1 hg1
        go_wp2_with fail
        go_ret
        exact ⟨.slice ao1 x1.length cap1, x1, rfl, HX.out, hr2, hB1, hl1, hn1⟩

theorem lineStringO_any (go gp : Nat) (lx ly hx hy : Int) (hl : Near (lx, ly)) (hh : Near (hx, hy)) (h1 : lx < hx) (h2 : ly < hy) (ao : Option Addr) (cap : Nat) (ps : List (Int × Int)) (B : Nat) (w : World) (hlen : ps.length ≤ 1000) (hn : ∀ p ∈ ps, Near p)
    (hoc : ∀ i (h : i + 1 < ps.length), Octi ps[i] ps[i + 1]) (hgo : w.cell? ⟨go, 0, none⟩ = some (.func (Fn.func 58) #[] #[.pointer (some ⟨gp, 0, none⟩)])) (hgl : go < w.heap.size) (hp : Blk w gp #[.bool true] 4) (h : w.ownsRow B 69 2 (.slice ao ps.length cap) ps.length (ps.flatMap ptE)) :
    Calls Try.prog 48 #[.agg #[.float .f64 (F lx), .float .f64 (F ly), .float .f64 (F hx), .float .f64 (F hy)], .slice ao ps.length cap, .slice (some ⟨go, 0, none⟩) 1 1] w
      fun e w' => ∃ v xs, e = .returned v ∧ xs.map Prod.snd = lineL true lx ly hx hy ps ∧ RowsAt w' w.heap.size 100 69 ptE v xs ∧ Below w.heap.size w w' ∧ (∀ x ∈ xs, x.2.length ≤ 2000) ∧ xs.length ≤ 1001 :=
  (lineStringO_full go gp lx ly hx hy hl hh h1 h2 ao cap ps B w hlen hn hoc hgo hgl hp h).mono fun _ _ ⟨v, xs, he, hx', hr, hb⟩ => ⟨v, xs, he, hx', hr.rows, hb⟩

end Go.Proofs.Ytafanlbfbfbeoaa
