/- What the proofs over smartclip lean on, part 7 of 48. -/
import Derived.Test.YtafanlbfbfbeoaaM01
import Derived.Test.YtafanlbfbfbeoaaM05
import Derived.Test.YtafanlbfbfbeoaaM00
import Derived.ChangeKeysEq
import Derived.Test.YtafanlbfbfbeoaaM02
import Derived.Deep.QuietTactic
import Derived.BigQuiet

/- The box of the package. -/
namespace Go.Proofs.Ytafanlbfbfbeoaa
open Go.RowKit

def boxV (lx ly hx hy : Int) : Value := .agg #[.float .f64 (F lx), .float .f64 (F ly), .float .f64 (F hx), .float .f64 (F hy)]

set_option maxRecDepth 100000 in
set_option maxHeartbeats 1000000 in
theorem of_any (lx ly hx hy : Int) (w : World) :
    Calls Try.prog 14 #[.agg #[.int .i64 lx, .int .i64 ly, .int .i64 hx, .int .i64 hy]] w
      fun e w' => e = .returned (.agg #[.float .f64 (F lx), .float .f64 (F ly), .float .f64 (F hx), .float .f64 (F hy)]) ∧ Below w.heap.size w w' := by
  go_enter Try.func14, Try.ntmps14
  go_wp2_with fail
  refine (specPoints_any (some ⟨w.heap.size + 2, 0, none⟩) 2 [(lx, ly), (hx, hy)] w.heap.size _ (by simp) ?h1).mono ?_
  case h1 =>
    have h := own_new ((w.alloc (.cells #[.int .i64 lx, .int .i64 ly, .int .i64 hx, .int .i64 hy] 27)).alloc (.cells #[.float .f64 0, .float .f64 0, .float .f64 0, .float .f64 0] 41)) w.heap.size (by simp; omega) 25 2 2 [.int .i64 lx, .int .i64 ly, .int .i64 hx, .int .i64 hy] rfl (by omega)
    simp only [World.size_alloc] at h
    exact h
  rintro e w1 ⟨ao', cap', rfl, hown, hbel⟩
  obtain ⟨g, hg, hc⟩ := pts_read hown
  obtain ⟨rfl, hgs, hgb⟩ := hg (by simp)
  have c0 : w1.cell? ⟨g, 0, none⟩ = some (.float .f64 (F lx)) := (hc 0 (by simp)).1
  have c1 : w1.cell? ⟨g, 1, none⟩ = some (.float .f64 (F ly)) := (hc 0 (by simp)).2
  have c2 : w1.cell? ⟨g, 2, none⟩ = some (.float .f64 (F hx)) := (hc 1 (by simp)).1
  have c3 : w1.cell? ⟨g, 3, none⟩ = some (.float .f64 (F hy)) := (hc 1 (by simp)).2
  have hbox : Blk w1 (w.heap.size + 1) #[.float .f64 0, .float .f64 0, .float .f64 0, .float .f64 0] 41 := by
    have h := Blk.new (w.alloc (.cells #[.int .i64 lx, .int .i64 ly, .int .i64 hx, .int .i64 hy] 27)) #[.float .f64 0, .float .f64 0, .float .f64 0, .float .f64 0] 41
    simp only [World.size_alloc] at h
    exact (h.alloc _).below hbel (by simp)
  have b0 : w1.cell? ⟨w.heap.size + 1, 0, none⟩ = some (.float .f64 0) := hbox.cell 0
  have b1 : w1.cell? ⟨w.heap.size + 1, 1, none⟩ = some (.float .f64 0) := hbox.cell 1
  have b2 : w1.cell? ⟨w.heap.size + 1, 2, none⟩ = some (.float .f64 0) := hbox.cell 2
  have b3 : w1.cell? ⟨w.heap.size + 1, 3, none⟩ = some (.float .f64 0) := hbox.cell 3
  have f0 : w1.frozen? ⟨w.heap.size + 1, 0, none⟩ = false := hbox.frozen 0
  have f1 : w1.frozen? ⟨w.heap.size + 1, 1, none⟩ = false := hbox.frozen 1
  have f2 : w1.frozen? ⟨w.heap.size + 1, 2, none⟩ = false := hbox.frozen 2
  have f3 : w1.frozen? ⟨w.heap.size + 1, 3, none⟩ = false := hbox.frozen 3
  have hb2 : Below w.heap.size w w1 := by
    refine Below.trans (b := ((w.alloc _).alloc _).alloc _) ((((Below.refl _ _).alloc (Nat.le_refl _) _).alloc (by simp) _).alloc (by simp; omega) _) (hbel.mono (by simp; omega))
  clear hc hg hown
  go_wp2_with fail
  go_region
  go_wp2
  refine bodyPost_ret (v := .agg #[.float .f64 (F lx), .float .f64 (F ly), .float .f64 (F hx), .float .f64 (F hy)]) (by simp [results, Try.results14, go_sem, b0, b1, b2, b3]) rfl ⟨rfl, ?_⟩
  exact ((((hb2.setCell (by simp) _).setCell (by simp) _).setCell (by simp) _).setCell (by simp) _).drew

set_option maxRecDepth 100000 in
set_option maxHeartbeats 1000000 in
theorem bound_any (lx ly hx hy : Int) (w : World) :
    Calls Try.prog 28 #[.agg #[.float .f64 (F lx), .float .f64 (F ly), .float .f64 (F hx), .float .f64 (F hy)]] w
      fun e w' => e = .returned (.agg #[.float .f64 (F lx), .float .f64 (F ly), .float .f64 (F hx), .float .f64 (F hy)]) ∧ Below w.heap.size w w' := by
  go_enter Try.func28, Try.ntmps28
  go_wp2
  refine bodyPost_ret (v := .agg #[.float .f64 (F lx), .float .f64 (F ly), .float .f64 (F hx), .float .f64 (F hy)]) (by simp [results, Try.results28, go_sem]) rfl ⟨rfl, ?_⟩
  exact ((Below.refl _ _).alloc (Nat.le_refl _) _).alloc (by simp) _
end Go.Proofs.Ytafanlbfbfbeoaa

/- A line, clipped, as the thin package gives it. -/
namespace Go.Proofs.Ytafanlbfbfbeoaa
open Go.RowKit

set_option maxRecDepth 100000 in
set_option maxHeartbeats 1000000 in
theorem lineString_any (lx ly hx hy : Int) (hl : Near (lx, ly)) (hh : Near (hx, hy)) (h1 : lx < hx) (h2 : ly < hy) (ao : Option Addr) (cap : Nat) (ps : List (Int × Int)) (B : Nat) (w : World) (hlen : ps.length ≤ 1000) (hn : ∀ p ∈ ps, Near p)
    (hoc : ∀ i (h : i + 1 < ps.length), Octi ps[i] ps[i + 1]) (h : w.ownsRow B 69 2 (.slice ao ps.length cap) ps.length (ps.flatMap ptE)) :
    Calls Try.prog 48 #[.agg #[.float .f64 (F lx), .float .f64 (F ly), .float .f64 (F hx), .float .f64 (F hy)], .slice ao ps.length cap, .slice none 0 0] w
      fun e w' => ∃ v xs, e = .returned v ∧ xs.map Prod.snd = lineL false lx ly hx hy ps ∧ RowsAt w' w.heap.size 100 69 ptE v xs ∧ Below w.heap.size w w' ∧ (∀ x ∈ xs, x.2.length ≤ 2000) ∧ xs.length ≤ 1001 := by
  have hline := fun W hr => line_any false lx ly hx hy hl hh h1 h2 ao cap ps B W hlen hn hoc hr
  generalize lineL false lx ly hx hy ps = R at *
  go_enter Try.func48, Try.ntmps48
  go_wp2_with fail
  refine (hline _ (h.alloc _)).mono ?_
  rintro e w1 ⟨v1, x1, rfl, hx1, hr1, hb1, hl1, hn1⟩
  have hB1 : Below w.heap.size w w1 := ((Below.refl _ _).alloc (Nat.le_refl _) _).trans (hb1.mono (by simp))
  have hr2 := hr1.mono (B' := w.heap.size) (by simp)
  obtain ⟨ao1, cap1, g1, rfl, hg1, _⟩ := hr2.read
  clear hline hb1 hr1 h
  by_cases hz : x1 = []
  · have hR : Hid (R = []) := by show _ = _; rw [← hx1, hz]; rfl
    clear hx1 hr2 hl1 hg1
    subst hz
    go_wp2_with fail
    go_ret
    exact ⟨.slice none 0 0, [], rfl, hR.out.symm, ⟨none, 0, rfl, World.ownsRow_nil _ _ _ _, fun x hx => by simp at hx⟩, hB1, fun x hx => by simp at hx, by simp⟩
  · have hp : 0 < x1.length := List.length_pos_iff.2 hz
    have HX : Hid (x1.map Prod.snd = R) := hx1
    clear hx1 hg1
    go_wp2_with fail
    go_ret
    exact ⟨.slice ao1 x1.length cap1, x1, rfl, HX.out, hr2, hB1, hl1, hn1⟩

theorem seg_in {o : Bool} {lx ly hx hy : Int} {P Q : Int × Int} (hPQ : Octi P Q) (hP : codeX o lx ly hx hy P.1 P.2 = 0) (hQ : codeX o lx ly hx hy Q.1 Q.2 = 0) : segP o lx ly hx hy P Q = some (P, Q) := by
  have hend := pt_len hPQ
  have h0 := pt_zero P (dirK P Q)
  have e : segL lx ly hx hy P (dirK P Q) ((lenK P Q).toNat + 3) o o 0 (lenK P Q) = some (0, lenK P Q) := by
    rw [segL, if_pos]
    rw [h0, hend]
    exact ⟨(codeX_zero o lx ly hx hy P.1 P.2).1 hP, (codeX_zero o lx ly hx hy Q.1 Q.2).1 hQ⟩
  unfold segP
  rw [e, Option.map_some, h0, hend]

/-- A line within the box is itself. -/
theorem line_in {o : Bool} {lx ly hx hy : Int} : ∀ (l : List (Int × Int)) (P : Int × Int) (rows : List (List (Int × Int))) (pre : List (Int × Int)), (rows = [] ∧ pre = [] ∨ rows = [pre]) → l ≠ [] → OctiL P l → codeX o lx ly hx hy P.1 P.2 = 0 → (∀ Q ∈ l, codeX o lx ly hx hy Q.1 Q.2 = 0) →
    (lineR o lx ly hx hy l P (rows, 0)).1 = [pre ++ P :: l]
  | [], _, _, _, _, h, _, _, _ => absurd rfl h
  | [Q], P, rows, pre, hr, _, ho, hP, hQ => by
    have hq := hQ Q (by simp)
    rw [lineR, lineR, stepR, seg_in ho.1 hP hq]
    simp only [hq, if_true, List.isEmpty_nil]
    rcases hr with ⟨rfl, rfl⟩ | rfl <;> simp [pushL]
  | Q :: R :: l, P, rows, pre, hr, _, ho, hP, hQ => by
    have hq := hQ Q (by simp)
    have e : stepR o lx ly hx hy (R :: l).isEmpty (rows, 0) P Q = ([pre ++ [P]], 0) := by
      rw [stepR, seg_in ho.1 hP hq]
      simp only [hq, if_true, List.isEmpty_cons, Bool.false_eq_true, if_false]
      rcases hr with ⟨rfl, rfl⟩ | rfl <;> simp [pushL]
    rw [lineR, e, line_in (R :: l) Q _ (pre ++ [P]) (.inr rfl) (by simp) ho.2 hq fun S hS => hQ S (by simp [hS])]
    simp

theorem octi_get : ∀ {l : List (Int × Int)} {q : Int × Int} (_ : OctiL q l) (i : Nat) (hi : i + 1 < l.length), Octi l[i] l[i + 1]
  | [], _, _, i, hi => by simp at hi
  | [p], _, _, i, hi => by simp at hi
  | p :: r :: l, q, h, 0, _ => h.2.1
  | p :: r :: l, q, h, i + 1, hi => octi_get (l := r :: l) h.2 i (by simpa using hi)

theorem code_has {lx ly hx hy : Int} {p : Int × Int} (h : hasB lx ly hx hy p.1 p.2 = true) : codeX false lx ly hx hy p.1 p.2 = 0 := by
  have h := hasB_iff.1 h
  unfold codeX acode
  simp only [Bool.false_eq_true, if_false]
  (repeat' split) <;> omega
end Go.Proofs.Ytafanlbfbfbeoaa

/- A line, clipped to an open box. -/
namespace Go.Proofs.Ytafanlbfbfbeoaa
open Go.RowKit

set_option maxRecDepth 100000 in
set_option maxHeartbeats 1000000 in
theorem openBound_any (w : World) : Calls Try.prog 49 #[.bool true] w fun e w' => e = .returned (.func (Fn.func 58) #[] #[.pointer (some ⟨w.heap.size, 0, none⟩)]) ∧ Blk w' w.heap.size #[.bool true] 4 ∧ Below w.heap.size w w' := by
  go_enter Try.func49, Try.ntmps49
  go_wp2
  go_ret
  exact ⟨rfl, Blk.new _ _ _, (Below.refl _ _).alloc (Nat.le_refl _) _⟩

set_option maxRecDepth 100000 in
set_option maxHeartbeats 1000000 in
theorem openSet_any (b gp : Nat) (u : Value) (w : World) (h : Blk w b #[u] 122) (hp : Blk w gp #[.bool true] 4) :
    Calls Try.prog 58 #[.pointer (some ⟨b, 0, none⟩), .pointer (some ⟨gp, 0, none⟩)] w fun e w' => (∃ v, e = .returned v) ∧ w' = w.setCell ⟨b, 0, none⟩ (.bool true) := by
  have e0 : w.cell? ⟨gp, 0, none⟩ = some (.bool true) := hp.cell 0
  have e1 : w.cell? ⟨b, 0, none⟩ = some u := h.cell 0
  have e2 : w.frozen? ⟨b, 0, none⟩ = false := h.frozen 0
  go_enter Try.func58, Try.ntmps58
  go_wp2
  go_end0
  exact ⟨⟨_, rfl⟩, rfl⟩

set_option maxRecDepth 100000 in
set_option maxHeartbeats 1000000 in
theorem lineStringO_full (go gp : Nat) (lx ly hx hy : Int) (hl : Near (lx, ly)) (hh : Near (hx, hy)) (h1 : lx < hx) (h2 : ly < hy) (ao : Option Addr) (cap : Nat) (ps : List (Int × Int)) (B : Nat) (w : World) (hlen : ps.length ≤ 1000) (hn : ∀ p ∈ ps, Near p)
    (hoc : ∀ i (h : i + 1 < ps.length), Octi ps[i] ps[i + 1]) (hgo : w.cell? ⟨go, 0, none⟩ = some (.func (Fn.func 58) #[] #[.pointer (some ⟨gp, 0, none⟩)])) (hgl : go < w.heap.size) (hp : Blk w gp #[.bool true] 4) (h : w.ownsRow B 69 2 (.slice ao ps.length cap) ps.length (ps.flatMap ptE)) :
    Calls Try.prog 48 #[.agg #[.float .f64 (F lx), .float .f64 (F ly), .float .f64 (F hx), .float .f64 (F hy)], .slice ao ps.length cap, .slice (some ⟨go, 0, none⟩) 1 1] w
      fun e w' => ∃ v xs, e = .returned v ∧ xs.map Prod.snd = lineL true lx ly hx hy ps ∧ Lines w' w.heap.size v xs ∧ Below w.heap.size w w' ∧ (∀ x ∈ xs, x.2.length ≤ 2000) ∧ xs.length ≤ 1001 := by
  have hline := fun W hr => line_full true lx ly hx hy hl hh h1 h2 ao cap ps B W hlen hn hoc hr
  generalize lineL true lx ly hx hy ps = R at *
  go_enter Try.func48, Try.ntmps48
  go_wp2_with fail
  have hbox := (Blk.new w #[.float .f64 (F lx), .float .f64 (F ly), .float .f64 (F hx), .float .f64 (F hy)] 71).alloc (.cells #[.bool false] 122)
  have hopt := Blk.new (w.alloc (.cells #[.float .f64 (F lx), .float .f64 (F ly), .float .f64 (F hx), .float .f64 (F hy)] 71)) #[.bool false] 122
  rw [World.size_alloc] at hopt
  have hgpl := hp.lt
  go_loopw [19] (fun i wr => ∃ (k : Nat), k ≤ 1 ∧ i = .int .i64 k ∧ Blk wr (w.heap.size + 1) #[.bool (decide (k = 1))] 122 ∧ Blk wr w.heap.size #[.float .f64 (F lx), .float .f64 (F ly), .float .f64 (F hx), .float .f64 (F hy)] 71 ∧ Below w.heap.size w wr)
    (fun i _ => 1 - (intOf i).toNat)
  case atStart => exact ⟨0, by omega, rfl, hopt, hbox, ((Below.refl _ _).alloc (Nat.le_refl _) _).alloc (by simp) _⟩
  case round =>
    clear hbox hopt
    obtain ⟨k, hk, rfl, hopt, hbox, hbel⟩ := hrel
    by_cases hk0 : k = 0
    · subst hk0
      have e0 : wr.cell? ⟨go, 0, none⟩ = some (.func (Fn.func 58) #[] #[.pointer (some ⟨gp, 0, none⟩)]) := (hbel.cell (by exact hgl)).trans hgo
      have hset := openSet_any (w.heap.size + 1) gp _ wr hopt (hp.below hbel hgpl)
      go_wp2_with fail
      refine hset.mono ?_
      rintro e w1 ⟨⟨v, rfl⟩, rfl⟩
      have hopt2 : Blk (wr.setCell ⟨w.heap.size + 1, 0, none⟩ (.bool true)) (w.heap.size + 1) #[.bool (decide (1 = 1))] 122 := hopt.set 0 (.bool true)
      have hbox2 := hbox.setOther ⟨w.heap.size + 1, 0, none⟩ (by simp) (.bool true)
      have hbel2 : Below w.heap.size w (wr.setCell ⟨w.heap.size + 1, 0, none⟩ (.bool true)) := hbel.setCell (by simp) _
      clear hopt hbox hbel hset e0
      go_wp2_with fail
      go_roundw
      case rel => exact ⟨1, by omega, by go_num, hopt2, hbox2, hbel2⟩
      case measure => simp [intOf]
    · obtain rfl : k = 1 := by omega
      have e0 : wr.cell? ⟨w.heap.size + 1, 0, none⟩ = some (.bool true) := hopt.cell 0
      have f0 : wr.cell? ⟨w.heap.size, 0, none⟩ = some (.float .f64 (F lx)) := hbox.cell 0
      have f1 : wr.cell? ⟨w.heap.size, 1, none⟩ = some (.float .f64 (F ly)) := hbox.cell 1
      have f2 : wr.cell? ⟨w.heap.size, 2, none⟩ = some (.float .f64 (F hx)) := hbox.cell 2
      have f3 : wr.cell? ⟨w.heap.size, 3, none⟩ = some (.float .f64 (F hy)) := hbox.cell 3
      go_wp2_with fail
      refine (hline _ (own_below h hbel (Nat.le_refl _))).mono ?_
      rintro e w1 ⟨v1, x1, rfl, hx1, hr1, hb1, hl1, hn1⟩
      have hB1 : Below w.heap.size w w1 := hbel.trans (hb1.mono hbel.size)
      have hr2 := hr1.mono (B' := w.heap.size) hbel.size
      obtain ⟨ao1, cap1, g1, rfl, hg1, _⟩ := hr2.rows.read
      clear hline hb1 hr1 h e0 f0 f1 f2 f3
      by_cases hz : x1 = []
      · have hR : Hid (R = []) := by show _ = _; rw [← hx1, hz]; rfl
        clear hx1 hr2 hl1 hg1
        subst hz
        go_wp2_with fail
        go_ret
        exact ⟨.slice none 0 0, [], rfl, hR.out.symm, ⟨⟨none, 0, rfl, World.ownsRow_nil _ _ _ _, fun x hx => by simp at hx⟩, ⟨fun x hx => by simp at hx, .nil⟩⟩, hB1, fun x hx => by simp at hx, by simp⟩
      · have hp : 0 < x1.length := List.length_pos_iff.2 hz
        have HX : Hid (x1.map Prod.snd = R) := hx1
        clear hx1 hg1
        go_wp2_with fail
        go_ret
        exact ⟨.slice ao1 x1.length cap1, x1, rfl, HX.out, hr2, hB1, hl1, hn1⟩

theorem lineStringO_any (go gp : Nat) (lx ly hx hy : Int) (hl : Near (lx, ly)) (hh : Near (hx, hy)) (h1 : lx < hx) (h2 : ly < hy) (ao : Option Addr) (cap : Nat) (ps : List (Int × Int)) (B : Nat) (w : World) (hlen : ps.length ≤ 1000) (hn : ∀ p ∈ ps, Near p)
    (hoc : ∀ i (h : i + 1 < ps.length), Octi ps[i] ps[i + 1]) (hgo : w.cell? ⟨go, 0, none⟩ = some (.func (Fn.func 58) #[] #[.pointer (some ⟨gp, 0, none⟩)])) (hgl : go < w.heap.size) (hp : Blk w gp #[.bool true] 4) (h : w.ownsRow B 69 2 (.slice ao ps.length cap) ps.length (ps.flatMap ptE)) :
    Calls Try.prog 48 #[.agg #[.float .f64 (F lx), .float .f64 (F ly), .float .f64 (F hx), .float .f64 (F hy)], .slice ao ps.length cap, .slice (some ⟨go, 0, none⟩) 1 1] w
      fun e w' => ∃ v xs, e = .returned v ∧ xs.map Prod.snd = lineL true lx ly hx hy ps ∧ RowsAt w' w.heap.size 100 69 ptE v xs ∧ Below w.heap.size w w' ∧ (∀ x ∈ xs, x.2.length ≤ 2000) ∧ xs.length ≤ 1001 :=
  (lineStringO_full go gp lx ly hx hy hl hh h1 h2 ao cap ps B w hlen hn hoc hgo hgl hp h).mono fun _ _ ⟨v, xs, he, hx', hr, hb⟩ => ⟨v, xs, he, hx', hr.rows, hb⟩

end Go.Proofs.Ytafanlbfbfbeoaa

/- Two points of the package compared. -/
namespace Go.Proofs.Ytafanlbfbfbeoaa

@[go_sem] theorem run_equalIn_pt (w : World) (a b c e : Nat) : (Op.equalIn 10000 69 (.agg #[.float .f64 a, .float .f64 b]) (.agg #[.float .f64 c, .float .f64 e])).run Try.prog w = .ok ((FloatKind.f64.format.order a c == some .eq) && (FloatKind.f64.format.order b e == some .eq)) w := by
  obtain ⟨i, hi⟩ := Option.isSome_iff_exists.1 (show (Try.prog.info? 37).isSome = true by kernel_rfl)
  rw [run_equalIn_array (w := w) 9999 _ _ Try.underlying69 hi]
  have hc : Try.prog.cellsOf 37 = 1 := by kernel_rfl
  rw [hc]
  have hr : List.range 2 = [0, 1] := rfl
  rw [hr]
  have hpart : ∀ (xs : Array Value) (off : Nat) (v : Value) (w : World), xs[off]? = some v → (part 37 xs off).run Try.prog w = .ok v w := by
    intro xs off v w hx
    simp [part, isAgg, go_sem, run_underlying Try.underlying37, hx]
  have heq : ∀ (x y : Nat) (w : World), (Op.equalIn 9999 37 (.float .f64 x) (.float .f64 y)).run Try.prog w = .ok (FloatKind.f64.format.order x y == some .eq) w := fun x y w => run_equalIn_float w 9998 _ _ _ _ Try.underlying37
  simp only [Op.eqItems, Sem.run_bind]
  rw [hpart _ (0 * 1) (.float .f64 a) w rfl]
  simp only [Result.andThen_ok]
  rw [hpart _ (0 * 1) (.float .f64 c) w rfl]
  simp only [Result.andThen_ok, heq]
  cases (FloatKind.f64.format.order a c == some .eq)
  · simp
  · simp only [Bool.not_true, Bool.false_eq_true, if_false, Sem.run_bind]
    rw [hpart _ (1 * 1) (.float .f64 b) w rfl]
    simp only [Result.andThen_ok]
    rw [hpart _ (1 * 1) (.float .f64 e) w rfl]
    simp only [Result.andThen_ok, heq]
    cases (FloatKind.f64.format.order b e == some .eq) <;> simp
end Go.Proofs.Ytafanlbfbfbeoaa

/- Floats that are halves of whole numbers. -/
namespace Go.Proofs.Ytafanlbfbfbeoaa
open Ieee

/-- The bits of the float that is half the whole number n. -/
def H (n : Int) : Nat := Fs 1 n

theorem rep_down {d : Datum} {n : Int} (h : Rep 1 d (2 * n)) : Rep 0 d n := by
  obtain ⟨g, m, i, rfl, hi, hv⟩ := h
  refine ⟨g, m, i, rfl, by omega, fun b hb => ?_⟩
  rw [hv b hb, show (-((0 : Nat) : Int) - b).toNat = (-((1 : Nat) : Int) - b).toNat + 1 by omega, Int.pow_succ]
  rw [Int.mul_comm 2 n, Int.mul_assoc, Int.mul_comm 2]

theorem sm_abs {n : Int} (h : -4000000 ≤ n ∧ n ≤ 4000000) : n.natAbs < 2 ^ 53 := by
  have : n.natAbs ≤ 4000000 := by omega
  exact Nat.lt_of_le_of_lt this (by decide)

theorem read_H {n : Int} (h : -4000000 ≤ n ∧ n ≤ 4000000) : RepP 1 (Ieee.double.read (H n)) n := read_rep 1 n (by omega) (sm_abs h)

theorem F_H {n : Int} (h : -2000000 ≤ n ∧ n ≤ 2000000) : F n = H (2 * n) := by
  have h1 := read_H (n := 2 * n) (by omega)
  have h2 : RepP 0 (Ieee.double.read (H (2 * n))) n := ⟨rep_down h1.1, fun e => h1.2 (by omega)⟩
  have e1 := write_rep (by omega) h1 (sm_abs (by omega))
  have e2 := write_rep (by omega) h2 (sm_abs (by omega))
  rw [e1] at e2
  exact e2.symm

theorem mul2_H {n : Int} (h : Sm n) : FloatKind.f64.format.mul (F 2) (H n) = some (F n) := by
  unfold Sm at h
  by_cases h0 : n = 0
  · subst h0; decide +kernel
  obtain ⟨r, hr, hp⟩ := rep_product (read_F (n := 2) (by decide)).1 (read_H (n := n) (by omega)).1
  have hp2 : Rep 0 r n := rep_down hp
  show ((Ieee.double.read (F 2)).product (Ieee.double.read (H n))).map Ieee.double.write = _
  rw [hr, Option.map_some, write_rep (by omega) ⟨hp2, fun e => absurd e h0⟩ (sm_abs (by omega))]
  rfl

theorem half_F {n : Int} (h : Sm n) : FloatKind.f64.format.div (F n) (F 2) = some (H n) := by
  unfold Sm at h
  by_cases h0 : n = 0
  · subst h0; decide +kernel
  have h1 := (read_H (n := 2 * n) (by omega)).1
  rw [← F_H (by omega), Int.mul_comm] at h1
  obtain ⟨r, hr, hp⟩ := rep_quotient (s := 1) (s' := 0) (q := n) (b := 2) h1 (read_F (n := 2) (by decide)).1 (by decide) (sm_abs (by omega)) (by decide)
  show ((Ieee.double.read (F n)).quotient 54 (Ieee.double.read (F 2))).map Ieee.double.write = _
  rw [hr, Option.map_some, write_rep (by omega) ⟨hp, fun e => absurd e h0⟩ (sm_abs (by omega))]
  rfl

theorem F_two : (4611686018427387904 : Nat) = F 2 := by decide +kernel

section
variable {P : Program} (w : World)
@[go_sem] theorem run_mul2_H (t : TypeId) (n : Int) (h : Sm n) : (binOp .mul t (.float .f64 4611686018427387904) (.float .f64 (H n))).run P w = .ok (.float .f64 (F n)) w := by
  rw [F_two]; exact run_float_arith w .mul t .f64 _ _ _ (mul2_H h)
@[go_sem] theorem run_half_F (t : TypeId) (n : Int) (h : Sm n) : (binOp .quo t (.float .f64 (F n)) (.float .f64 4611686018427387904)).run P w = .ok (.float .f64 (H n)) w := by
  rw [F_two]; exact run_float_arith w .quo t .f64 _ _ _ (half_F h)
end

/-- A point by the halves of its coordinates. -/
def hE (p : Int × Int) : List Value := [.float .f64 (H p.1), .float .f64 (H p.2)]
def dblP (p : Int × Int) : Int × Int := (2 * p.1, 2 * p.2)
end Go.Proofs.Ytafanlbfbfbeoaa

/- Polygons, turned ring by ring; points by halves. -/
namespace Go.Proofs.Ytafanlbfbfbeoaa
open Go.RowKit

theorem Try.info86 : (Try.prog.info? 86).map (fun i => (i.zero, i.size, i.bytes)) = some (some (.slice none 0 0), 1, 24) := by kernel_rfl
theorem Try.info46 : (Try.prog.info? 46).map (fun i => (i.zero, i.size, i.bytes)) = some (some (.slice none 0 0), 1, 24) := by kernel_rfl

theorem hpts_read {w : World} {B : Nat} {ao : Option Addr} {cap : Nat} {e : TypeId} {ps : List (Int × Int)} (h : w.ownsRow B e 2 (.slice ao ps.length cap) ps.length (ps.flatMap hE)) :
    ∃ g, (0 < ps.length → ao = some ⟨g, 0, none⟩ ∧ g < w.heap.size ∧ B ≤ g) ∧ ∀ k (hk : k < ps.length), w.cell? ⟨g, k * 2, none⟩ = some (.float .f64 (H ps[k].1)) ∧ w.cell? ⟨g, k * 2 + 1, none⟩ = some (.float .f64 (H ps[k].2)) := by
  obtain ⟨g, h1, h2⟩ := row_read_flat hE (fun _ => rfl) ps h
  exact ⟨g, h1, fun k hk => ⟨h2 k hk 0 (by omega), h2 k hk 1 (by omega)⟩⟩

set_option maxRecDepth 100000 in
set_option maxHeartbeats 400000 in
theorem plainRingH_any (ao : Option Addr) (cap : Nat) (ps : List (Int × Int)) (B : Nat) (w : World) (hl : ps.length ≤ 100000000) (h : w.ownsRow B 69 2 (.slice ao ps.length cap) ps.length (ps.flatMap hE)) :
    Calls Try.prog 46 #[.slice ao ps.length cap] w fun e w' => ∃ ao' cap', e = .returned (.slice ao' ps.length cap') ∧ w'.ownsRow w.heap.size 39 2 (.slice ao' ps.length cap') ps.length (ps.flatMap hE) ∧ Below w.heap.size w w' := by
  obtain ⟨i0, hi, hz0, hz1, hz2⟩ := info_parts Try.info39
  obtain ⟨g, hg, hc⟩ := hpts_read h
  clear h
  go_enter Try.func46, Try.ntmps46
  go_wp2
  go_loopw [3, 9] (fun v i wr => ∃ (k : Nat) (ao' : Option Addr) (cap' : Nat), k ≤ ps.length ∧ i = .int .i64 k ∧ v = .slice ao' k cap' ∧ wr.ownsRow w.heap.size 39 2 (.slice ao' k cap') k ((ps.take k).flatMap hE) ∧ Below w.heap.size w wr)
    (fun _ i _ => ps.length - (intOf i).toNat)
  case atStart => exact ⟨0, _, _, Nat.zero_le _, rfl, rfl, own_new w _ (Nat.le_refl _) 39 2 0 [] rfl (by omega), (Below.refl _ _).alloc (Nat.le_refl _) _⟩
  case round =>
    obtain ⟨k, ao', cap', hk, rfl, rfl, hown, hbel⟩ := hrel
    have hsz := hbel.size
    by_cases hlt : k < ps.length
    · obtain ⟨rfl, hgs, _⟩ := hg (by omega)
      obtain ⟨c0, c1⟩ := hc k hlt
      have d0 : wr.cell? ⟨g, k * 2, none⟩ = some (.float .f64 (H ps[k].1)) := (hbel.cell (by exact hgs)).trans c0
      have d1 : wr.cell? ⟨g, k * 2 + 1, none⟩ = some (.float .f64 (H ps[k].2)) := (hbel.cell (by exact hgs)).trans c1
      clear c0 c1 hg hc
      go_wp2_with (at_builtin; refine wpList_push rfl _ _ 43 rfl 39 i0 _ 2 16 Try.underlying43 hi hz0 hz1 hz2 rfl (by decide) (by decide) w _ w.heap.size _ k _ rfl (hown.alloc _) w.heap.size (below_alloc hbel _ (Nat.le_refl _)) (Nat.le_refl _) (by simp; omega) (by omega) [_, _] _ _ (by simp) 1 rfl rfl (by simp [Value.oneCell']) ?_)
      intro g' cap'' w1 hown1 hbel1 _ _ _ _
      have hown2 : w1.ownsRow w.heap.size 39 2 (.slice (some ⟨g', 0, none⟩) (k + 1) cap'') (k + 1) ((ps.take (k + 1)).flatMap hE) := by rw [← take_snoc_flat hE ps k hlt]; exact hown1
      clear hown1 hown d0 d1
      go_wp2
      go_roundw
      case rel => exact ⟨k + 1, _, _, by omega, by go_num, rfl, hown2, hbel1⟩
      case measure => simp [intOf]; omega
    · obtain rfl : k = ps.length := by omega
      rw [List.take_length] at hown
      go_wp2
      go_ret
      exact ⟨_, _, rfl, hown, hbel⟩

set_option maxRecDepth 100000 in
set_option maxHeartbeats 1000000 in
theorem plainRingsH_any (v : Value) (xs : List (Value × List (Int × Int))) (B : Nat) (w : World) (hl : ∀ x ∈ xs, x.2.length ≤ 100000000) (hn : xs.length ≤ 10000000) (h : RowsAt w B 74 69 hE v xs) :
    Calls Try.prog 40 #[v] w fun e w' => ∃ v' ys, e = .returned v' ∧ ys.map Prod.snd = xs.map Prod.snd ∧ RowsAt w' w.heap.size 43 39 hE v' ys ∧ Below w.heap.size w w' ∧ Fresh w.heap.size w'.heap.size ys := by
  obtain ⟨i0, hi, hz0, hz1, hz2⟩ := info_parts Try.info43
  obtain ⟨ao, cap, g, rfl, hg, hc⟩ := h.read
  clear h
  go_enter Try.func40, Try.ntmps40
  go_wp2_with fail
  go_loopw [3, 9] (fun v i wr => ∃ (k : Nat) (ao' : Option Addr) (cap' : Nat) (ys : List (Value × List (Int × Int))), k ≤ xs.length ∧ i = .int .i64 k ∧ v = .slice ao' k cap' ∧ Hid (ys.map Prod.snd = (xs.take k).map Prod.snd ∧ ys.length = k) ∧
      wr.ownsRow w.heap.size 43 1 (.slice ao' k cap') k (ys.map Prod.fst) ∧ (∀ y ∈ ys, RowAt wr 39 hE y.1 y.2) ∧ Below w.heap.size w wr ∧ Fresh w.heap.size wr.heap.size ys)
    (fun _ i _ => xs.length - (intOf i).toNat)
  case atStart => exact ⟨0, _, _, [], Nat.zero_le _, rfl, rfl, ⟨rfl, rfl⟩, own_new _ _ (Nat.le_refl _) 43 1 0 [] rfl (by omega), fun y hy => by simp at hy, (Below.refl _ _).alloc (Nat.le_refl _) _, fun y hy => by simp at hy, .nil⟩
  case round =>
    obtain ⟨k, ao', cap', ys, hk, rfl, rfl, HY, hown, hrow, hbel, hfr⟩ := hrel
    have hsz := hbel.size
    by_cases hlt : k < xs.length
    · obtain ⟨rfl, hgs, _⟩ := hg (by omega)
      obtain ⟨aq, cq, hv, c0, ho⟩ := hc k hlt
      have d0 : wr.cell? ⟨g, k, none⟩ = some (.slice aq xs[k].2.length cq) := (hbel.cell (by exact hgs)).trans c0
      have ho := own_below ho hbel (Nat.le_refl _)
      have hlp := hl xs[k] (List.getElem_mem _)
      obtain ⟨ps, hp⟩ : ∃ ps, ps = xs[k].2 := ⟨_, rfl⟩
      rw [← hp] at d0 ho hlp
      have HP : Hid (ps = xs[k].2) := hp
      clear hp hv c0 hc hg hl
      go_wp2_with fail
      refine (plainRingH_any aq cq ps _ _ hlp ho).mono ?_
      rintro e w1 ⟨a1, c1, rfl, ho1, hb1⟩
      have hown1 := own_below hown hb1 (Nat.le_refl _)
      have hrow1 : ∀ y ∈ ys, RowAt w1 39 hE y.1 y.2 := fun y hm => (hrow y hm).below hb1 (Nat.le_refl _)
      have hbel1 := hbel.trans (hb1.mono hbel.size)
      have hlt1 := ho1.lt
      have hs10 := hb1.size
      have ho1 := own_mono ho1 (Nat.zero_le _)
      have hs1 := hbel1.size
      clear hown hrow d0 ho hb1 hbel
      go_wp2_with (at_builtin; refine wpList_push rfl _ _ 46 rfl 43 i0 _ 1 24 Try.underlying46 hi hz0 hz1 hz2 rfl (by decide) (by decide) w _ w.heap.size _ k _ rfl hown1 w.heap.size hbel1 (Nat.le_refl _) (by omega) (by omega) [_] _ _ (by simp) 1 rfl rfl (by simp [Value.oneCell']) ?_)
      intro g' cap'' w3 hown3 hbel3 hsz3 hgr _ _
      have hfr3 : Fresh w.heap.size w3.heap.size (ys ++ [(Value.slice a1 ps.length c1, ps)]) := hfr.snoc hsz (Nat.le_of_lt hsz3) hs10 hlt1
      have hrow3 : ∀ y ∈ ys ++ [(Value.slice a1 ps.length c1, ps)], RowAt w3 39 hE y.1 y.2 := fun y hm => by
        rcases List.mem_append.1 hm with hm | hm
        · exact ((hrow1 y hm).alloc _).grown (hown1.alloc _) (by decide) hgr
        · rw [List.mem_singleton.1 hm]
          exact ⟨_, _, rfl, own_grown (ho1.alloc _) (hown1.alloc _) (by decide) hgr⟩
      have hown3' : w3.ownsRow w.heap.size 43 1 (.slice (some ⟨g', 0, none⟩) (k + 1) cap'') (k + 1) ((ys ++ [(Value.slice a1 ps.length c1, ps)]).map Prod.fst) := by rw [List.map_append]; exact hown3
      have HY3 : Hid ((ys ++ [(Value.slice a1 ps.length c1, ps)]).map Prod.snd = (xs.take (k + 1)).map Prod.snd ∧ (ys ++ [(Value.slice a1 ps.length c1, ps)]).length = k + 1) := by
        refine ⟨?_, by rw [List.length_append, HY.out.2]; rfl⟩
        rw [List.take_succ_eq_append_getElem hlt, List.map_append, List.map_append, HY.out.1, HP.out]
        rfl
      clear hown3 hgr hown1 hrow1 hfr hlt1
      go_wp2_with fail
      go_roundw
      case rel => exact ⟨k + 1, _, _, _, by omega, by go_num, rfl, HY3, hown3', hrow3, hbel3, hfr3⟩
      case measure => simp [intOf]; omega
    · obtain rfl : k = xs.length := by omega
      have hY2 := HY.out
      rw [List.take_length] at hY2
      go_wp2_with fail
      go_ret
      exact ⟨.slice ao' xs.length cap', ys, rfl, hY2.1, ⟨ao', cap', by rw [hY2.2], by rw [hY2.2]; exact hown, hrow⟩, hbel, hfr⟩

/-- Several slices of slices of points. -/
def PolysAt (w : World) (B : Nat) (t3 t2 e : TypeId) (enc : Int × Int → List Value) (v : Value) (xs : List (Value × List (Value × List (Int × Int)))) : Prop :=
  ∃ ao cap, v = .slice ao xs.length cap ∧ w.ownsRow B t3 1 (.slice ao xs.length cap) xs.length (xs.map Prod.fst) ∧ ∀ x ∈ xs, RowsAt w 0 t2 e enc x.1 x.2

section
variable {w w' : World} {B B' C : Nat} {t3 t t2 e : TypeId} {enc : Int × Int → List Value} {v : Value} {xs : List (Value × List (Value × List (Int × Int)))}
theorem RowsAt.grown {xs : List (Value × List (Int × Int))} {s' n' : Nat} {u : Value} {ys : List Value} (h : RowsAt w B t2 e enc v xs) (h' : w.ownsRow B' t s' u n' ys) (hne : t2 ≠ t) (hne' : e ≠ t) (hg : w.grownBy w' u.ownBlock) : RowsAt w' B t2 e enc v xs := by
  obtain ⟨ao, cap, hv, ho, hx⟩ := h
  exact ⟨ao, cap, hv, own_grown ho h' hne hg, fun x hm => (hx x hm).grown h' hne' hg⟩
theorem PolysAt.alloc (h : PolysAt w B t3 t2 e enc v xs) (o : Obj) : PolysAt (w.alloc o) B t3 t2 e enc v xs := by
  obtain ⟨ao, cap, hv, ho, hx⟩ := h; exact ⟨ao, cap, hv, ho.alloc _, fun x hm => (hx x hm).alloc _⟩
theorem PolysAt.drew (h : PolysAt w B t3 t2 e enc v xs) : PolysAt w.drew B t3 t2 e enc v xs := by
  obtain ⟨ao, cap, hv, ho, hx⟩ := h; exact ⟨ao, cap, hv, ho.drew, fun x hm => (hx x hm).drew⟩
theorem PolysAt.below (h : PolysAt w B t3 t2 e enc v xs) (hb : Below C w w') (hC : w.heap.size ≤ C) : PolysAt w' B t3 t2 e enc v xs := by
  obtain ⟨ao, cap, hv, ho, hx⟩ := h; exact ⟨ao, cap, hv, own_below ho hb hC, fun x hm => (hx x hm).below hb hC⟩
theorem PolysAt.mono (h : PolysAt w B t3 t2 e enc v xs) (hB : B' ≤ B) : PolysAt w B' t3 t2 e enc v xs := by
  obtain ⟨ao, cap, hv, ho, hx⟩ := h; exact ⟨ao, cap, hv, own_mono ho hB, hx⟩

theorem PolysAt.read (h : PolysAt w B t3 t2 e enc v xs) : ∃ ao cap g, v = .slice ao xs.length cap ∧ (0 < xs.length → ao = some ⟨g, 0, none⟩ ∧ g < w.heap.size ∧ B ≤ g) ∧
    ∀ k (hk : k < xs.length), ∃ a2 c2, w.cell? ⟨g, k, none⟩ = some (.slice a2 xs[k].2.length c2) ∧ RowsAt w 0 t2 e enc (.slice a2 xs[k].2.length c2) xs[k].2 := by
  obtain ⟨ao, cap, rfl, ho, hx⟩ := h
  have hl : xs.length = (xs.map Prod.fst).length := by rw [List.length_map]
  obtain ⟨g, hg, hc⟩ := row_read ho
  refine ⟨ao, cap, g, rfl, hg, fun k hk => ?_⟩
  have hr := hx xs[k] (List.getElem_mem hk)
  have hr' := hr
  obtain ⟨a2, c2, hv, _⟩ := hr
  refine ⟨a2, c2, ?_, by rw [← hv]; exact hr'⟩
  have := hc k (by simpa using hk)
  rw [List.getElem?_map, List.getElem?_eq_getElem hk] at this
  rw [← hv]
  simpa using this
end

set_option maxRecDepth 100000 in
set_option maxHeartbeats 1000000 in
theorem plainPolygonsH_any (v : Value) (xs : List (Value × List (Value × List (Int × Int)))) (B : Nat) (w : World) (hl : ∀ x ∈ xs, (∀ y ∈ x.2, y.2.length ≤ 100000000) ∧ x.2.length ≤ 10000000) (hn : xs.length ≤ 10000000) (h : PolysAt w B 86 74 69 hE v xs) :
    Calls Try.prog 26 #[v] w fun e w' => ∃ v' ys, e = .returned v' ∧ ys.map (fun y => y.2.map Prod.snd) = xs.map (fun x => x.2.map Prod.snd) ∧ PolysAt w' w.heap.size 46 43 39 hE v' ys ∧ Below w.heap.size w w' := by
  obtain ⟨i0, hi, hz0, hz1, hz2⟩ := info_parts Try.info46
  obtain ⟨ao, cap, g, rfl, hg, hc⟩ := h.read
  clear h
  go_enter Try.func26, Try.ntmps26
  go_wp2_with fail
  go_loopw [3, 9] (fun v i wr => ∃ (k : Nat) (ao' : Option Addr) (cap' : Nat) (ys : List (Value × List (Value × List (Int × Int)))), k ≤ xs.length ∧ i = .int .i64 k ∧ v = .slice ao' k cap' ∧ Hid (ys.map (fun y => y.2.map Prod.snd) = (xs.take k).map (fun x => x.2.map Prod.snd) ∧ ys.length = k) ∧
      wr.ownsRow w.heap.size 46 1 (.slice ao' k cap') k (ys.map Prod.fst) ∧ (∀ y ∈ ys, RowsAt wr 0 43 39 hE y.1 y.2) ∧ Below w.heap.size w wr)
    (fun _ i _ => xs.length - (intOf i).toNat)
  case atStart => exact ⟨0, _, _, [], Nat.zero_le _, rfl, rfl, ⟨rfl, rfl⟩, own_new _ _ (Nat.le_refl _) 46 1 0 [] rfl (by omega), fun y hy => by simp at hy, (Below.refl _ _).alloc (Nat.le_refl _) _⟩
  case round =>
    obtain ⟨k, ao', cap', ys, hk, rfl, rfl, HY, hown, hrow, hbel⟩ := hrel
    have hsz := hbel.size
    by_cases hlt : k < xs.length
    · obtain ⟨rfl, hgs, _⟩ := hg (by omega)
      obtain ⟨aq, cq, c0, ho⟩ := hc k hlt
      have d0 : wr.cell? ⟨g, k, none⟩ = some (.slice aq xs[k].2.length cq) := (hbel.cell (by exact hgs)).trans c0
      have ho := ho.below hbel (Nat.le_refl _)
      have hlp := hl xs[k] (List.getElem_mem _)
      obtain ⟨ps, hp⟩ : ∃ ps, ps = xs[k].2 := ⟨_, rfl⟩
      rw [← hp] at d0 ho hlp
      have HP : Hid (ps = xs[k].2) := hp
      clear hp c0 hc hg hl
      go_wp2_with fail
      refine (plainRingsH_any _ ps _ _ hlp.1 hlp.2 ho).mono ?_
      rintro e w1 ⟨v1, y1, rfl, hy1, ho1, hb1, _⟩
      have HY1 : Hid (y1.map Prod.snd = ps.map Prod.snd) := hy1
      have ho1' := ho1
      obtain ⟨a1, c1, rfl, hr1, _⟩ := ho1'
      have hown1 := own_below hown hb1 (Nat.le_refl _)
      have hrow1 : ∀ y ∈ ys, RowsAt w1 0 43 39 hE y.1 y.2 := fun y hm => (hrow y hm).below hb1 (Nat.le_refl _)
      have hbel1 := hbel.trans (hb1.mono hbel.size)
      have hs10 := hb1.size
      have ho1 := ho1.mono (B' := 0) (Nat.zero_le _)
      have hs1 := hbel1.size
      clear hown hrow d0 ho hb1 hbel hr1 hy1 hlp
      go_wp2_with (at_builtin; refine wpList_push rfl _ _ 35 rfl 46 i0 _ 1 24 Try.underlying35 hi hz0 hz1 hz2 rfl (by decide) (by decide) w _ w.heap.size _ k _ rfl hown1 w.heap.size hbel1 (Nat.le_refl _) (by omega) (by omega) [_] _ _ (by simp) 1 rfl rfl (by simp [Value.oneCell']) ?_)
      intro g' cap'' w3 hown3 hbel3 hsz3 hgr _ _
      have hrow3 : ∀ y ∈ ys ++ [(Value.slice a1 y1.length c1, y1)], RowsAt w3 0 43 39 hE y.1 y.2 := fun y hm => by
        rcases List.mem_append.1 hm with hm | hm
        · exact ((hrow1 y hm).alloc _).grown (hown1.alloc _) (by decide) (by decide) hgr
        · rw [List.mem_singleton.1 hm]
          exact (ho1.alloc _).grown (hown1.alloc _) (by decide) (by decide) hgr
      have hown3' : w3.ownsRow w.heap.size 46 1 (.slice (some ⟨g', 0, none⟩) (k + 1) cap'') (k + 1) ((ys ++ [(Value.slice a1 y1.length c1, y1)]).map Prod.fst) := by rw [List.map_append]; exact hown3
      have HY3 : Hid ((ys ++ [(Value.slice a1 y1.length c1, y1)]).map (fun y => y.2.map Prod.snd) = (xs.take (k + 1)).map (fun x => x.2.map Prod.snd) ∧ (ys ++ [(Value.slice a1 y1.length c1, y1)]).length = k + 1) := by
        refine ⟨?_, by rw [List.length_append, HY.out.2]; rfl⟩
        rw [List.take_succ_eq_append_getElem hlt, List.map_append, List.map_append, HY.out.1, List.map_singleton, List.map_singleton, HY1.out, HP.out]
      clear hown3 hgr hown1 hrow1
      go_wp2_with fail
      go_roundw
      case rel => exact ⟨k + 1, _, _, _, by omega, by go_num, rfl, HY3, hown3', hrow3, hbel3⟩
      case measure => simp [intOf]; omega
    · obtain rfl : k = xs.length := by omega
      have hY2 := HY.out
      rw [List.take_length] at hY2
      go_wp2_with fail
      go_ret
      exact ⟨.slice ao' xs.length cap', rfl, ys, hY2.1, ⟨ao', cap', by rw [hY2.2], by rw [hY2.2]; exact hown, hrow⟩, hbel⟩
end Go.Proofs.Ytafanlbfbfbeoaa

/- Small functions of smartclip. -/
namespace Go.Proofs.Ytafanlbfbfbeoaa
open Go.RowKit

/-- The side of a box on which a point lies. -/
def sideI (lx ly hx hy x y : Int) : Int := if y = hy then 4 else if y = ly then 2 else if x = hx then 3 else if x = lx then 1 else 255

set_option maxRecDepth 100000 in
set_option maxHeartbeats 1000000 in
theorem pointSide_any (lx ly hx hy x y : Int) (h1 : Sm lx) (h2 : Sm ly) (h3 : Sm hx) (h4 : Sm hy) (h5 : Sm x) (h6 : Sm y) (w : World) :
    Calls Try.prog 50 #[.agg #[.float .f64 (F lx), .float .f64 (F ly), .float .f64 (F hx), .float .f64 (F hy)], .agg #[.float .f64 (F x), .float .f64 (F y)]] w
      fun e w' => e = .returned (.int .u8 (sideI lx ly hx hy x y)) ∧ Below w.heap.size w w' := by
  go_enter Try.func50, Try.ntmps50
  go_wp2
  all_goals
    go_ret
    refine ⟨ret_int ?_, ((Below.refl _ _).alloc (Nat.le_refl _) _).alloc (by simp) _⟩
    unfold sideI
    (repeat' split) <;> omega

set_option maxRecDepth 100000 in
set_option maxHeartbeats 1000000 in
/-- A ring of four points or more that ends where it began. -/
theorem ringClosed_any (ao : Option Addr) (cap : Nat) (ps : List (Int × Int)) (B : Nat) (w : World) (h4 : 4 ≤ ps.length) (hl : ps.length ≤ 100000000) (h0 : Sm ps[0].1 ∧ Sm ps[0].2) (he : ps[ps.length - 1] = ps[0]) (h : w.ownsRow B 69 2 (.slice ao ps.length cap) ps.length (ps.flatMap ptE)) :
    Calls Try.prog 47 #[.slice ao ps.length cap] w fun e w' => e = .returned (.bool true) ∧ ∃ q, w' = w.drewN q := by
  obtain ⟨g, hg, hc⟩ := pts_read h
  obtain ⟨rfl, hgs, _⟩ := hg (by omega)
  obtain ⟨c0, c1⟩ := hc 0 (by omega)
  obtain ⟨c2, c3⟩ := hc (ps.length - 1) (by omega)
  rw [he] at c2 c3
  have hd : decide ((4 : Int) ≤ (ps.length : Int)) = true := decide_eq_true (by omega)
  have hi : (4 : Int) ≤ (ps.length : Int) := by omega
  have ht : ((ps.length : Int) - 1).toNat = ps.length - 1 := by omega
  clear h hg hc he
  go_enter Try.func47, Try.ntmps47
  go_wp2_with fail
  go_quiet (fail)
  go_wp2_with fail
  go_ret
  exact ⟨rfl, _, rfl⟩
end Go.Proofs.Ytafanlbfbfbeoaa
