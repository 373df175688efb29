/- What the proofs over smartclip lean on, part 4 of 48. -/
import Derived.Test.YtafanlbfbfbeoaaM02
import Derived.Test.YtafanlbfbfbeoaaM00
import Derived.BigRegion
import Derived.Deep.DeepCutAuto
import Derived.Test.YtafanlbfbfbeoaaM01

/- The point at which a line crosses a side of the box. -/
namespace Go.Proofs.Ytafanlbfbfbeoaa
open Go.RowKit Ieee

/-- The facts of the arithmetic: `x + a * b / c = r`. -/
def Arith (x a b c r : Int) : Prop := ∃ m d, FloatKind.f64.format.mul (F a) (F b) = some m ∧ FloatKind.f64.format.div m (F c) = some d ∧ FloatKind.f64.format.add (F x) d = some (F r)

set_option maxRecDepth 100000 in
set_option maxHeartbeats 1000000 in
theorem isect_top (e lx ly hx hy ax ay bx by' r : Int) (h1 : Sm hy) (h2 : Sm ax) (h3 : Sm ay) (h4 : Sm bx) (h5 : Sm by') (e8 : Hid (bits .and .i64 e 8 = 8)) (ha : Arith ax (bx - ax) (hy - ay) (by' - ay) r) (w : World) :
    Calls Try.prog 67 #[.agg #[.float .f64 (F lx), .float .f64 (F ly), .float .f64 (F hx), .float .f64 (F hy)], .int .i64 e, .agg #[.float .f64 (F ax), .float .f64 (F ay)], .agg #[.float .f64 (F bx), .float .f64 (F by')]] w
      fun e w' => e = .returned (.agg #[.float .f64 (F r), .float .f64 (F hy)]) ∧ Below w.heap.size w w' := by
  obtain ⟨m, d, hm, hd, hr⟩ := ha
  have fm : ∀ t w, (binOp .mul t (.float .f64 (F (bx - ax))) (.float .f64 (F (hy - ay)))).run Try.prog w = .ok (.float .f64 m) w := fun t w => run_float_arith w .mul t .f64 _ _ _ hm
  have fd : ∀ t w, (binOp .quo t (.float .f64 m) (.float .f64 (F (by' - ay)))).run Try.prog w = .ok (.float .f64 d) w := fun t w => run_float_arith w .quo t .f64 _ _ _ hd
  have fa : ∀ t w, (binOp .add t (.float .f64 (F ax)) (.float .f64 d)).run Try.prog w = .ok (.float .f64 (F r)) w := fun t w => run_float_arith w .add t .f64 _ _ _ hr
  clear hm hd hr
  go_enter Try.func67, Try.ntmps67
  have e8 := e8.out
  go_wp2_with (first | simp only [e8] | fail)
  all_goals
    refine bodyPost_ret (v := .agg #[.float .f64 (F r), .float .f64 (F hy)]) (by simp [results, Try.results67, go_sem]) rfl ⟨rfl, ?_⟩
    exact (((((Below.refl w.heap.size w).alloc (Nat.le_refl _) _).alloc (by simp) _).alloc (by simp; omega) _).alloc (by simp; omega) _)

set_option maxRecDepth 100000 in
set_option maxHeartbeats 1000000 in
theorem isect_bottom (e lx ly hx hy ax ay bx by' r : Int) (h1 : Sm ly) (h2 : Sm ax) (h3 : Sm ay) (h4 : Sm bx) (h5 : Sm by') (e8 : Hid (bits .and .i64 e 8 = 0)) (e4 : Hid (bits .and .i64 e 4 = 4)) (ha : Arith ax (bx - ax) (ly - ay) (by' - ay) r) (w : World) :
    Calls Try.prog 67 #[.agg #[.float .f64 (F lx), .float .f64 (F ly), .float .f64 (F hx), .float .f64 (F hy)], .int .i64 e, .agg #[.float .f64 (F ax), .float .f64 (F ay)], .agg #[.float .f64 (F bx), .float .f64 (F by')]] w
      fun e w' => e = .returned (.agg #[.float .f64 (F r), .float .f64 (F ly)]) ∧ Below w.heap.size w w' := by
  obtain ⟨m, d, hm, hd, hr⟩ := ha
  have fm : ∀ t w, (binOp .mul t (.float .f64 (F (bx - ax))) (.float .f64 (F (ly - ay)))).run Try.prog w = .ok (.float .f64 m) w := fun t w => run_float_arith w .mul t .f64 _ _ _ hm
  have fd : ∀ t w, (binOp .quo t (.float .f64 m) (.float .f64 (F (by' - ay)))).run Try.prog w = .ok (.float .f64 d) w := fun t w => run_float_arith w .quo t .f64 _ _ _ hd
  have fa : ∀ t w, (binOp .add t (.float .f64 (F ax)) (.float .f64 d)).run Try.prog w = .ok (.float .f64 (F r)) w := fun t w => run_float_arith w .add t .f64 _ _ _ hr
  clear hm hd hr
  go_enter Try.func67, Try.ntmps67
  have e8 := e8.out
  have e4 := e4.out
  go_wp2_with (first | simp only [e8, e4] | fail)
  all_goals
    refine bodyPost_ret (v := .agg #[.float .f64 (F r), .float .f64 (F ly)]) (by simp [results, Try.results67, go_sem]) rfl ⟨rfl, ?_⟩
    exact (((((Below.refl w.heap.size w).alloc (Nat.le_refl _) _).alloc (by simp) _).alloc (by simp; omega) _).alloc (by simp; omega) _)

set_option maxRecDepth 100000 in
set_option maxHeartbeats 1000000 in
theorem isect_right (e lx ly hx hy ax ay bx by' r : Int) (h1 : Sm hx) (h2 : Sm ax) (h3 : Sm ay) (h4 : Sm bx) (h5 : Sm by') (e8 : Hid (bits .and .i64 e 8 = 0)) (e4 : Hid (bits .and .i64 e 4 = 0)) (e2 : Hid (bits .and .i64 e 2 = 2)) (ha : Arith ay (by' - ay) (hx - ax) (bx - ax) r) (w : World) :
    Calls Try.prog 67 #[.agg #[.float .f64 (F lx), .float .f64 (F ly), .float .f64 (F hx), .float .f64 (F hy)], .int .i64 e, .agg #[.float .f64 (F ax), .float .f64 (F ay)], .agg #[.float .f64 (F bx), .float .f64 (F by')]] w
      fun e w' => e = .returned (.agg #[.float .f64 (F hx), .float .f64 (F r)]) ∧ Below w.heap.size w w' := by
  obtain ⟨m, d, hm, hd, hr⟩ := ha
  have fm : ∀ t w, (binOp .mul t (.float .f64 (F (by' - ay))) (.float .f64 (F (hx - ax)))).run Try.prog w = .ok (.float .f64 m) w := fun t w => run_float_arith w .mul t .f64 _ _ _ hm
  have fd : ∀ t w, (binOp .quo t (.float .f64 m) (.float .f64 (F (bx - ax)))).run Try.prog w = .ok (.float .f64 d) w := fun t w => run_float_arith w .quo t .f64 _ _ _ hd
  have fa : ∀ t w, (binOp .add t (.float .f64 (F ay)) (.float .f64 d)).run Try.prog w = .ok (.float .f64 (F r)) w := fun t w => run_float_arith w .add t .f64 _ _ _ hr
  clear hm hd hr
  go_enter Try.func67, Try.ntmps67
  have e8 := e8.out
  have e4 := e4.out
  have e2 := e2.out
  go_wp2_with (first | simp only [e8, e4, e2] | fail)
  all_goals
    refine bodyPost_ret (v := .agg #[.float .f64 (F hx), .float .f64 (F r)]) (by simp [results, Try.results67, go_sem]) rfl ⟨rfl, ?_⟩
    exact (((((Below.refl w.heap.size w).alloc (Nat.le_refl _) _).alloc (by simp) _).alloc (by simp; omega) _).alloc (by simp; omega) _)

set_option maxRecDepth 100000 in
set_option maxHeartbeats 1000000 in
theorem isect_left (e lx ly hx hy ax ay bx by' r : Int) (h1 : Sm lx) (h2 : Sm ax) (h3 : Sm ay) (h4 : Sm bx) (h5 : Sm by') (e8 : Hid (bits .and .i64 e 8 = 0)) (e4 : Hid (bits .and .i64 e 4 = 0)) (e2 : Hid (bits .and .i64 e 2 = 0)) (e1 : Hid (bits .and .i64 e 1 = 1)) (ha : Arith ay (by' - ay) (lx - ax) (bx - ax) r) (w : World) :
    Calls Try.prog 67 #[.agg #[.float .f64 (F lx), .float .f64 (F ly), .float .f64 (F hx), .float .f64 (F hy)], .int .i64 e, .agg #[.float .f64 (F ax), .float .f64 (F ay)], .agg #[.float .f64 (F bx), .float .f64 (F by')]] w
      fun e w' => e = .returned (.agg #[.float .f64 (F lx), .float .f64 (F r)]) ∧ Below w.heap.size w w' := by
  obtain ⟨m, d, hm, hd, hr⟩ := ha
  have fm : ∀ t w, (binOp .mul t (.float .f64 (F (by' - ay))) (.float .f64 (F (lx - ax)))).run Try.prog w = .ok (.float .f64 m) w := fun t w => run_float_arith w .mul t .f64 _ _ _ hm
  have fd : ∀ t w, (binOp .quo t (.float .f64 m) (.float .f64 (F (bx - ax)))).run Try.prog w = .ok (.float .f64 d) w := fun t w => run_float_arith w .quo t .f64 _ _ _ hd
  have fa : ∀ t w, (binOp .add t (.float .f64 (F ay)) (.float .f64 d)).run Try.prog w = .ok (.float .f64 (F r)) w := fun t w => run_float_arith w .add t .f64 _ _ _ hr
  clear hm hd hr
  go_enter Try.func67, Try.ntmps67
  have e8 := e8.out
  have e4 := e4.out
  have e2 := e2.out
  have e1 := e1.out
  go_wp2_with (first | simp only [e8, e4, e2, e1] | fail)
  all_goals
    refine bodyPost_ret (v := .agg #[.float .f64 (F lx), .float .f64 (F r)]) (by simp [results, Try.results67, go_sem]) rfl ⟨rfl, ?_⟩
    exact (((((Below.refl w.heap.size w).alloc (Nat.le_refl _) _).alloc (by simp) _).alloc (by simp; omega) _).alloc (by simp; omega) _)

end Go.Proofs.Ytafanlbfbfbeoaa

/- What a side of the box leaves of a ring: the walk's own words. -/
namespace Go.Proofs.Ytafanlbfbfbeoaa
open Go.RowKit Ieee

abbrev Side (e : Int) : Prop := e = 1 ∨ e = 2 ∨ e = 4 ∨ e = 8

/-- Whether a point lies on the inner side of one of the sides of a box. -/
def inB (lx ly hx hy e : Int) (p : Int × Int) : Bool := if e = 1 then decide (lx ≤ p.1) else if e = 2 then decide (p.1 ≤ hx) else if e = 4 then decide (ly ≤ p.2) else decide (p.2 ≤ hy)

theorem inB_1 (lx ly hx hy : Int) (p : Int × Int) : inB lx ly hx hy 1 p = decide (lx ≤ p.1) := rfl
theorem inB_2 (lx ly hx hy : Int) (p : Int × Int) : inB lx ly hx hy 2 p = decide (p.1 ≤ hx) := rfl
theorem inB_4 (lx ly hx hy : Int) (p : Int × Int) : inB lx ly hx hy 4 p = decide (ly ≤ p.2) := rfl
theorem inB_8 (lx ly hx hy : Int) (p : Int × Int) : inB lx ly hx hy 8 p = decide (p.2 ≤ hy) := rfl

/-- Where a line crosses it. -/
def cutP (lx ly hx hy e : Int) (q p : Int × Int) : Int × Int :=
  if e = 8 then (q.1 + (p.1 - q.1) * (hy - q.2) / (p.2 - q.2), hy) else if e = 4 then (q.1 + (p.1 - q.1) * (ly - q.2) / (p.2 - q.2), ly)
  else if e = 2 then (hx, q.2 + (p.2 - q.2) * (hx - q.1) / (p.1 - q.1)) else (lx, q.2 + (p.2 - q.2) * (lx - q.1) / (p.1 - q.1))

/-- A line along an axis, or just between both. -/
def Octi (q p : Int × Int) : Prop := q.1 = p.1 ∨ q.2 = p.2 ∨ p.1 - q.1 = p.2 - q.2 ∨ p.1 - q.1 = -(p.2 - q.2)

theorem code_in {lx ly hx hy e x y : Int} (he : Side e) (h1 : lx ≤ hx) (h2 : ly ≤ hy) : (bits .and .i64 (codeI lx ly hx hy x y) e == 0) = inB lx ly hx hy e (x, y) := by
  have key : ∀ a b : Int, (a = 0 ∨ a = 1 ∨ a = 2) → (b = 0 ∨ b = 4 ∨ b = 8) → (bits .and .i64 (a + b) 1 == 0) = decide (a ≠ 1) ∧ (bits .and .i64 (a + b) 2 == 0) = decide (a ≠ 2) ∧ (bits .and .i64 (a + b) 4 == 0) = decide (b ≠ 4) ∧ (bits .and .i64 (a + b) 8 == 0) = decide (b ≠ 8) := by
    rintro a b (rfl | rfl | rfl) (rfl | rfl | rfl) <;> decide
  obtain ⟨k1, k2, k4, k8⟩ := key (if x < lx then 1 else if hx < x then 2 else 0) (if y < ly then 4 else if hy < y then 8 else 0) (by (repeat' split) <;> simp) (by (repeat' split) <;> simp)
  unfold codeI
  rcases he with rfl | rfl | rfl | rfl
  · rw [k1, inB_1, decide_eq_decide]; (repeat' split) <;> omega
  · rw [k2, inB_2, decide_eq_decide]; (repeat' split) <;> omega
  · rw [k4, inB_4, decide_eq_decide]; (repeat' split) <;> omega
  · rw [k8, inB_8, decide_eq_decide]; (repeat' split) <;> omega

theorem mid_cut {a b c m s : Int} (_hs : s = 0 ∨ s = 1 ∨ s = -1) (hb : b = s * c) (hc : c ≠ 0) : b * (m - a) / c = s * (m - a) ∧ b * (m - a) = s * (m - a) * c := by
  have e : b * (m - a) = s * (m - a) * c := by rw [hb, Int.mul_assoc, Int.mul_comm c, ← Int.mul_assoc]
  exact ⟨by rw [e, Int.mul_ediv_cancel _ hc], e⟩

theorem octi_slope {dx dy : Int} (h : dx = 0 ∨ dy = 0 ∨ dx = dy ∨ dx = -dy) (hy : dy ≠ 0) : ∃ s : Int, (s = 0 ∨ s = 1 ∨ s = -1) ∧ dx = s * dy := by
  rcases h with h | h | h | h
  · exact ⟨0, by simp, by simp [h]⟩
  · exact absurd h hy
  · exact ⟨1, by simp, by omega⟩
  · exact ⟨-1, by simp, by omega⟩

theorem arith_cut {ax ay bx by' m : Int} (h : bx - ax = 0 ∨ by' - ay = 0 ∨ bx - ax = by' - ay ∨ bx - ax = -(by' - ay)) (hc : by' - ay ≠ 0)
    (h1 : -3000 ≤ ax ∧ ax ≤ 3000) (h2 : -3000 ≤ ay ∧ ay ≤ 3000) (h3 : -3000 ≤ bx ∧ bx ≤ 3000) (h4 : -3000 ≤ by' ∧ by' ≤ 3000) (h5 : -3000 ≤ m ∧ m ≤ 3000) :
    Arith ax (bx - ax) (m - ay) (by' - ay) (ax + (bx - ax) * (m - ay) / (by' - ay)) := by
  obtain ⟨s, hs, hb⟩ := octi_slope h hc
  obtain ⟨e1, e2⟩ := mid_cut (a := ay) (m := m) hs hb hc
  rw [e1]
  refine isect_float ⟨by omega, by omega⟩ ⟨by omega, by omega⟩ ⟨by omega, by omega⟩ ⟨by omega, by omega⟩ hc e2 ?_ ?_
  · rcases hs with rfl | rfl | rfl <;> exact ⟨by omega, by omega⟩
  · rcases hs with rfl | rfl | rfl <;> exact ⟨by omega, by omega⟩

theorem cut_any (lx ly hx hy e : Int) (q p : Int × Int) (he : Side e) (hl : Near (lx, ly)) (hh : Near (hx, hy)) (hq : Near q) (hp : Near p) (ho : Octi q p) (hd : inB lx ly hx hy e p ≠ inB lx ly hx hy e q) (w : World) :
    Calls Try.prog 67 #[.agg #[.float .f64 (F lx), .float .f64 (F ly), .float .f64 (F hx), .float .f64 (F hy)], .int .i64 e, .agg #[.float .f64 (F q.1), .float .f64 (F q.2)], .agg #[.float .f64 (F p.1), .float .f64 (F p.2)]] w
      fun r w' => r = .returned (.agg #[.float .f64 (F (cutP lx ly hx hy e q p).1), .float .f64 (F (cutP lx ly hx hy e q p).2)]) ∧ Below w.heap.size w w' := by
  have o1 : p.1 - q.1 = 0 ∨ p.2 - q.2 = 0 ∨ p.1 - q.1 = p.2 - q.2 ∨ p.1 - q.1 = -(p.2 - q.2) := by unfold Octi at ho; omega
  have o2 : p.2 - q.2 = 0 ∨ p.1 - q.1 = 0 ∨ p.2 - q.2 = p.1 - q.1 ∨ p.2 - q.2 = -(p.1 - q.1) := by unfold Octi at ho; omega
  rcases he with rfl | rfl | rfl | rfl
  · rw [inB_1, inB_1, ne_eq, decide_eq_decide] at hd
    exact isect_left 1 lx ly hx hy q.1 q.2 p.1 p.2 _ hl.sm.1 hq.sm.1 hq.sm.2 hp.sm.1 hp.sm.2 (by show _ = _; decide) (by show _ = _; decide) (by show _ = _; decide) (by show _ = _; decide) (arith_cut o2 (by omega) hq.2 hq.1 hp.2 hp.1 hl.1) w
  · rw [inB_2, inB_2, ne_eq, decide_eq_decide] at hd
    exact isect_right 2 lx ly hx hy q.1 q.2 p.1 p.2 _ hh.sm.1 hq.sm.1 hq.sm.2 hp.sm.1 hp.sm.2 (by show _ = _; decide) (by show _ = _; decide) (by show _ = _; decide) (arith_cut o2 (by omega) hq.2 hq.1 hp.2 hp.1 hh.1) w
  · rw [inB_4, inB_4, ne_eq, decide_eq_decide] at hd
    exact isect_bottom 4 lx ly hx hy q.1 q.2 p.1 p.2 _ hl.sm.2 hq.sm.1 hq.sm.2 hp.sm.1 hp.sm.2 (by show _ = _; decide) (by show _ = _; decide) (arith_cut o1 (by omega) hq.1 hq.2 hp.1 hp.2 hl.2) w
  · rw [inB_8, inB_8, ne_eq, decide_eq_decide] at hd
    exact isect_top 8 lx ly hx hy q.1 q.2 p.1 p.2 _ hh.sm.2 hq.sm.1 hq.sm.2 hp.sm.1 hp.sm.2 (by show _ = _; decide) (arith_cut o1 (by omega) hq.1 hq.2 hp.1 hp.2 hh.2) w

/-- What a step onto a point leaves. -/
def emit (ins : Int × Int → Bool) (cut : Int × Int → Int × Int → Int × Int) (q p : Int × Int) : List (Int × Int) := (if ins p = ins q then [] else [cut q p]) ++ (if ins p then [p] else [])

def clipL (ins : Int × Int → Bool) (cut : Int × Int → Int × Int → Int × Int) : Int × Int → List (Int × Int) → List (Int × Int)
  | _, [] => []
  | q, p :: ps => emit ins cut q p ++ clipL ins cut p ps

/-- The last of some points, or the one ahead of them. -/
def lastOr (q : Int × Int) (l : List (Int × Int)) : Int × Int := l.getLast?.getD q

theorem clip_snoc (ins : Int × Int → Bool) (cut : Int × Int → Int × Int → Int × Int) : ∀ (l : List (Int × Int)) (q p : Int × Int), clipL ins cut q (l ++ [p]) = clipL ins cut q l ++ emit ins cut (lastOr q l) p
  | [], q, p => by simp [clipL, lastOr]
  | x :: l, q, p => by
    rw [List.cons_append, clipL, clipL, clip_snoc ins cut l x p, List.append_assoc]
    congr 3
    cases l with
    | nil => rfl
    | cons y l => simp [lastOr, List.getLast?_eq_some_getLast]

/-- One of the four sides, of a ring. -/
def passL (lx ly hx hy e : Int) (ps : List (Int × Int)) : List (Int × Int) := clipL (inB lx ly hx hy e) (cutP lx ly hx hy e) (lastOr (0, 0) ps) ps

/-- All four, and the first point again, if it is not the last one. -/
def closeL (ps : List (Int × Int)) : List (Int × Int) := if ps.head? = ps.getLast? then ps else ps ++ ps.head?.toList

def sidesL (lx ly hx hy : Int) (ps : List (Int × Int)) : List (Int × Int) := passL lx ly hx hy 8 (passL lx ly hx hy 4 (passL lx ly hx hy 2 (passL lx ly hx hy 1 ps)))

def ringL (lx ly hx hy : Int) (ps : List (Int × Int)) : List (Int × Int) := closeL (sidesL lx ly hx hy ps)

/-- All its lines, the one from the last point to the first too, go along an axis, or between both. -/
def OctiL : Int × Int → List (Int × Int) → Prop
  | _, [] => True
  | q, p :: ps => Octi q p ∧ OctiL p ps

def OctiR (ps : List (Int × Int)) : Prop := OctiL (lastOr (0, 0) ps) ps

/-- On the line of a side. -/
def onB (lx ly hx hy e : Int) (r : Int × Int) : Prop := if e = 1 then r.1 = lx else if e = 2 then r.1 = hx else if e = 4 then r.2 = ly else r.2 = hy

theorem onB_1 (lx ly hx hy : Int) (p : Int × Int) : onB lx ly hx hy 1 p = (p.1 = lx) := rfl
theorem onB_2 (lx ly hx hy : Int) (p : Int × Int) : onB lx ly hx hy 2 p = (p.1 = hx) := rfl
theorem onB_4 (lx ly hx hy : Int) (p : Int × Int) : onB lx ly hx hy 4 p = (p.2 = ly) := rfl
theorem onB_8 (lx ly hx hy : Int) (p : Int × Int) : onB lx ly hx hy 8 p = (p.2 = hy) := rfl

theorem on_octi {lx ly hx hy e : Int} {r c : Int × Int} (he : Side e) (h1 : onB lx ly hx hy e r) (h2 : onB lx ly hx hy e c) : Octi r c := by
  unfold Octi
  rcases he with rfl | rfl | rfl | rfl
  · rw [onB_1] at h1 h2; omega
  · rw [onB_2] at h1 h2; omega
  · rw [onB_4] at h1 h2; omega
  · rw [onB_8] at h1 h2; omega

/-- The crossing, from its slope. -/
theorem cut_form {lx ly hx hy e : Int} {q p : Int × Int} (he : Side e) (ho : Octi q p) (hd : inB lx ly hx hy e p ≠ inB lx ly hx hy e q) :
    ∃ s : Int, (s = 0 ∨ s = 1 ∨ s = -1) ∧ ((∃ m, ((e = 8 ∧ m = hy) ∨ (e = 4 ∧ m = ly)) ∧ p.1 - q.1 = s * (p.2 - q.2) ∧ cutP lx ly hx hy e q p = (q.1 + s * (m - q.2), m) ∧ (q.2 ≤ m ∧ m ≤ p.2 ∨ p.2 ≤ m ∧ m ≤ q.2)) ∨
      (∃ m, ((e = 2 ∧ m = hx) ∨ (e = 1 ∧ m = lx)) ∧ p.2 - q.2 = s * (p.1 - q.1) ∧ cutP lx ly hx hy e q p = (m, q.2 + s * (m - q.1)) ∧ (q.1 ≤ m ∧ m ≤ p.1 ∨ p.1 ≤ m ∧ m ≤ q.1))) := by
  have o1 : p.1 - q.1 = 0 ∨ p.2 - q.2 = 0 ∨ p.1 - q.1 = p.2 - q.2 ∨ p.1 - q.1 = -(p.2 - q.2) := by unfold Octi at ho; omega
  have o2 : p.2 - q.2 = 0 ∨ p.1 - q.1 = 0 ∨ p.2 - q.2 = p.1 - q.1 ∨ p.2 - q.2 = -(p.1 - q.1) := by unfold Octi at ho; omega
  rcases he with rfl | rfl | rfl | rfl
  · rw [inB_1, inB_1, ne_eq, decide_eq_decide] at hd
    obtain ⟨s, hs, hb⟩ := octi_slope o2 (by omega)
    refine ⟨s, hs, .inr ⟨lx, .inr ⟨rfl, rfl⟩, hb, ?_, by omega⟩⟩
    show (lx, q.2 + (p.2 - q.2) * (lx - q.1) / (p.1 - q.1)) = _
    rw [(mid_cut (m := lx) (a := q.1) hs hb (by omega)).1]
  · rw [inB_2, inB_2, ne_eq, decide_eq_decide] at hd
    obtain ⟨s, hs, hb⟩ := octi_slope o2 (by omega)
    refine ⟨s, hs, .inr ⟨hx, .inl ⟨rfl, rfl⟩, hb, ?_, by omega⟩⟩
    show (hx, q.2 + (p.2 - q.2) * (hx - q.1) / (p.1 - q.1)) = _
    rw [(mid_cut (m := hx) (a := q.1) hs hb (by omega)).1]
  · rw [inB_4, inB_4, ne_eq, decide_eq_decide] at hd
    obtain ⟨s, hs, hb⟩ := octi_slope o1 (by omega)
    refine ⟨s, hs, .inl ⟨ly, .inr ⟨rfl, rfl⟩, hb, ?_, by omega⟩⟩
    show (q.1 + (p.1 - q.1) * (ly - q.2) / (p.2 - q.2), ly) = _
    rw [(mid_cut (m := ly) (a := q.2) hs hb (by omega)).1]
  · rw [inB_8, inB_8, ne_eq, decide_eq_decide] at hd
    obtain ⟨s, hs, hb⟩ := octi_slope o1 (by omega)
    refine ⟨s, hs, .inl ⟨hy, .inl ⟨rfl, rfl⟩, hb, ?_, by omega⟩⟩
    show (q.1 + (p.1 - q.1) * (hy - q.2) / (p.2 - q.2), hy) = _
    rw [(mid_cut (m := hy) (a := q.2) hs hb (by omega)).1]

theorem cut_facts {lx ly hx hy e : Int} {q p : Int × Int} (he : Side e) (hq : Near q) (hp : Near p) (ho : Octi q p) (hd : inB lx ly hx hy e p ≠ inB lx ly hx hy e q) :
    Octi q (cutP lx ly hx hy e q p) ∧ Octi (cutP lx ly hx hy e q p) p ∧ onB lx ly hx hy e (cutP lx ly hx hy e q p) ∧ Near (cutP lx ly hx hy e q p) := by
  obtain ⟨s, hs, ⟨m, hm, hb, hc, hr⟩ | ⟨m, hm, hb, hc, hr⟩⟩ := cut_form he ho hd
  · rw [hc]
    obtain ⟨⟨q1, q2⟩, q3, q4⟩ := hq
    obtain ⟨⟨p1, p2⟩, p3, p4⟩ := hp
    refine ⟨?_, ?_, ?_, ?_⟩
    · unfold Octi; rcases hs with rfl | rfl | rfl <;> simp only <;> omega
    · unfold Octi; rcases hs with rfl | rfl | rfl <;> simp only <;> omega
    · rcases hm with ⟨rfl, rfl⟩ | ⟨rfl, rfl⟩ <;> rfl
    · unfold Near; rcases hs with rfl | rfl | rfl <;> simp only <;> omega
  · rw [hc]
    obtain ⟨⟨q1, q2⟩, q3, q4⟩ := hq
    obtain ⟨⟨p1, p2⟩, p3, p4⟩ := hp
    refine ⟨?_, ?_, ?_, ?_⟩
    · unfold Octi; rcases hs with rfl | rfl | rfl <;> simp only <;> omega
    · unfold Octi; rcases hs with rfl | rfl | rfl <;> simp only <;> omega
    · rcases hm with ⟨rfl, rfl⟩ | ⟨rfl, rfl⟩ <;> rfl
    · unfold Near; rcases hs with rfl | rfl | rfl <;> simp only <;> omega

theorem emit_len (ins : Int × Int → Bool) (cut : Int × Int → Int × Int → Int × Int) (q p : Int × Int) : (emit ins cut q p).length ≤ 2 := by
  unfold emit
  split <;> split <;> simp

theorem clip_len (ins : Int × Int → Bool) (cut : Int × Int → Int × Int → Int × Int) : ∀ (l : List (Int × Int)) (q : Int × Int), (clipL ins cut q l).length ≤ 2 * l.length
  | [], q => by simp [clipL]
  | p :: l, q => by
    have h1 := emit_len ins cut q p
    have h2 := clip_len ins cut l p
    simp only [clipL, List.length_append, List.length_cons]
    omega

theorem lastOr_cons (q p : Int × Int) (l : List (Int × Int)) : lastOr q (p :: l) = lastOr p l := by
  cases l with
  | nil => rfl
  | cons y l => simp [lastOr, List.getLast?_eq_some_getLast]

theorem lastOr_append (q : Int × Int) (a b : List (Int × Int)) : lastOr q (a ++ b) = lastOr (lastOr q a) b := by
  induction a generalizing q with
  | nil => rfl
  | cons x a ih => rw [List.cons_append, lastOr_cons, lastOr_cons, ih]

theorem octiL_append : ∀ (a b : List (Int × Int)) (q : Int × Int), OctiL q (a ++ b) ↔ OctiL q a ∧ OctiL (lastOr q a) b
  | [], b, q => by simp [OctiL, lastOr]
  | x :: a, b, q => by rw [List.cons_append, OctiL, OctiL, octiL_append a b x, lastOr_cons, and_assoc]

/-- How the last point that is left stands to the last one of the ring. -/
def Inv (lx ly hx hy e : Int) (q r : Int × Int) : Prop := (inB lx ly hx hy e q = true → r = q) ∧ (inB lx ly hx hy e q = false → onB lx ly hx hy e r)

theorem clip_octi {lx ly hx hy e : Int} (he : Side e) : ∀ (l : List (Int × Int)) (q r : Int × Int), Near q → (∀ p ∈ l, Near p) → OctiL q l → Inv lx ly hx hy e q r →
    OctiL r (clipL (inB lx ly hx hy e) (cutP lx ly hx hy e) q l) ∧ Inv lx ly hx hy e (lastOr q l) (lastOr r (clipL (inB lx ly hx hy e) (cutP lx ly hx hy e) q l)) ∧ ∀ p ∈ clipL (inB lx ly hx hy e) (cutP lx ly hx hy e) q l, Near p
  | [], q, r, _, _, _, hi => ⟨trivial, hi, by simp [clipL]⟩
  | p :: l, q, r, hq, hn, ho, hi => by
    have hp : Near p := hn p (by simp)
    have step : OctiL r (emit (inB lx ly hx hy e) (cutP lx ly hx hy e) q p) ∧ Inv lx ly hx hy e p (lastOr r (emit (inB lx ly hx hy e) (cutP lx ly hx hy e) q p)) ∧ ∀ u ∈ emit (inB lx ly hx hy e) (cutP lx ly hx hy e) q p, Near u := by
      unfold emit
      cases hpi : inB lx ly hx hy e p <;> cases hqi : inB lx ly hx hy e q
      · refine ⟨by simp [OctiL], ⟨by simp [hpi], fun _ => ?_⟩, by simp⟩
        simpa [lastOr] using hi.2 hqi
      · obtain ⟨f1, f2, f3, f4⟩ := cut_facts he hq hp ho.1 (by rw [hpi, hqi]; decide)
        obtain rfl := hi.1 hqi
        refine ⟨by simp [OctiL, f1], ⟨by simp [hpi], fun _ => ?_⟩, by simpa using f4⟩
        simpa [lastOr] using f3
      · obtain ⟨f1, f2, f3, f4⟩ := cut_facts he hq hp ho.1 (by rw [hpi, hqi]; decide)
        refine ⟨by simp [OctiL, f2, on_octi he (hi.2 hqi) f3], ⟨fun _ => by simp [lastOr], by simp [hpi]⟩, ?_⟩
        intro u hu
        simp at hu
        rcases hu with rfl | rfl
        · exact f4
        · exact hp
      · obtain rfl := hi.1 hqi
        refine ⟨by simp [OctiL, ho.1], ⟨fun _ => by simp [lastOr], by simp [hpi]⟩, by simpa using hp⟩
    obtain ⟨i1, i2, i3⟩ := clip_octi he l p (lastOr r (emit (inB lx ly hx hy e) (cutP lx ly hx hy e) q p)) hp (fun u hu => hn u (by simp [hu])) ho.2 step.2.1
    rw [clipL, octiL_append, lastOr_append, lastOr_cons]
    refine ⟨⟨step.1, i1⟩, i2, fun u hu => ?_⟩
    rcases List.mem_append.1 hu with h | h
    · exact step.2.2 u h
    · exact i3 u h

theorem lastOr_mem {l : List (Int × Int)} (q : Int × Int) (h : l ≠ []) : lastOr q l ∈ l := by
  unfold lastOr
  rw [List.getLast?_eq_some_getLast h]
  exact List.getLast_mem h

theorem lastOr_ne {l : List (Int × Int)} (q r : Int × Int) (h : l ≠ []) : lastOr q l = lastOr r l := by
  unfold lastOr
  rw [List.getLast?_eq_some_getLast h]
  rfl

theorem pass_facts {lx ly hx hy e : Int} (he : Side e) (ps : List (Int × Int)) (hn : ∀ p ∈ ps, Near p) (ho : OctiR ps) :
    OctiR (passL lx ly hx hy e ps) ∧ (∀ p ∈ passL lx ly hx hy e ps, Near p) ∧ (passL lx ly hx hy e ps).length ≤ 2 * ps.length := by
  by_cases hz : ps = []
  · subst hz; exact ⟨trivial, by simp [passL, clipL], by simp [passL, clipL]⟩
  have hq : Near (lastOr (0, 0) ps) := hn _ (lastOr_mem _ hz)
  have hb : ∃ b, Inv lx ly hx hy e (lastOr (0, 0) ps) b := by
    cases hi : inB lx ly hx hy e (lastOr (0, 0) ps)
    · refine ⟨(if e = 1 then lx else hx, if e = 4 then ly else hy), by simp [hi], fun _ => ?_⟩
      rcases he with rfl | rfl | rfl | rfl <;> rfl
    · exact ⟨_, fun _ => rfl, by simp [hi]⟩
  obtain ⟨b, hb⟩ := hb
  obtain ⟨i1, i2, i3⟩ := clip_octi he ps _ b hq hn ho hb
  refine ⟨?_, i3, clip_len _ _ _ _⟩
  by_cases hy' : passL lx ly hx hy e ps = []
  · rw [hy']; trivial
  · have e1 : lastOr (lastOr (0, 0) ps) ps = lastOr (0, 0) ps := lastOr_ne _ _ hz
    rw [e1] at i2
    have e2 : lastOr b (passL lx ly hx hy e ps) = lastOr (0, 0) (passL lx ly hx hy e ps) := lastOr_ne _ _ hy'
    have i4 : Inv lx ly hx hy e (lastOr (0, 0) ps) (lastOr (0, 0) (passL lx ly hx hy e ps)) := by rw [← e2]; exact i2
    exact (clip_octi he ps _ _ hq hn ho i4).1
end Go.Proofs.Ytafanlbfbfbeoaa

/- A line along one of eight directions, clipped: which of its steps are left. -/
namespace Go.Proofs.Ytafanlbfbfbeoaa

/-- Where a coordinate lies to the two sides: 0 between them, 1 before, 2 behind; the sides count as outside, if they are open. -/
def acode (o : Bool) (l h x : Int) : Int := if o = true then (if x ≤ l then 1 else if h ≤ x then 2 else 0) else (if x < l then 1 else if h < x then 2 else 0)

/-- The step at which a side is crossed. -/
def cross1 (l h p d c : Int) : Int := if c = 2 then (h - p) * d else (l - p) * d

theorem acode_cases (o : Bool) (l h x : Int) : acode o l h x = 0 ∨ acode o l h x = 1 ∨ acode o l h x = 2 := by
  unfold acode; (repeat' split) <;> simp

theorem axisA {l h p d s t : Int} {oA oB : Bool} (hlh : l < h) (hd : d = -1 ∨ d = 0 ∨ d = 1) (hst : s ≤ t) (ha : acode oA l h (p + s * d) ≠ 0) (hb : acode oB l h (p + t * d) ≠ acode oA l h (p + s * d)) (hf : oA = true → oB = true) :
    d ≠ 0 ∧ s ≤ cross1 l h p d (acode oA l h (p + s * d)) ∧ cross1 l h p d (acode oA l h (p + s * d)) ≤ t ∧ (oA = false → s < cross1 l h p d (acode oA l h (p + s * d))) ∧ (oB = true → cross1 l h p d (acode oA l h (p + s * d)) < t) ∧ s < t ∧
    p + cross1 l h p d (acode oA l h (p + s * d)) * d = (if acode oA l h (p + s * d) = 2 then h else l) ∧
    ∀ k, s ≤ k → k < cross1 l h p d (acode oA l h (p + s * d)) → ¬ (l ≤ p + k * d ∧ p + k * d ≤ h) := by
  unfold acode cross1 at *
  rcases hd with rfl | rfl | rfl <;> cases oA <;> cases oB <;> simp only [Int.mul_zero, Int.mul_one, Int.mul_neg_one, Bool.false_eq_true, if_false, if_true, false_implies, true_implies, reduceCtorEq] at * <;>
    (repeat' split at *) <;> (first | omega | (refine ⟨by omega, by omega, by omega, by first | omega | trivial, by first | omega | trivial, by omega, by omega, fun k h1 h2 => by omega⟩) | (simp at *; done) | skip)

theorem axisB {l h p d s t : Int} {oA oB : Bool} (hlh : l < h) (hd : d = -1 ∨ d = 0 ∨ d = 1) (hst : s ≤ t) (ha : acode oA l h (p + s * d) = 0) (hb : acode oB l h (p + t * d) ≠ 0) (hx : oA = false → oB = true → s < t ∧ (d = 0 → p ≠ l ∧ p ≠ h)) :
    d ≠ 0 ∧ s ≤ cross1 l h p d (acode oB l h (p + t * d)) ∧ cross1 l h p d (acode oB l h (p + t * d)) ≤ t ∧ s < t ∧ (oB = false → cross1 l h p d (acode oB l h (p + t * d)) < t) ∧
    p + cross1 l h p d (acode oB l h (p + t * d)) * d = (if acode oB l h (p + t * d) = 2 then h else l) ∧
    ∀ k, cross1 l h p d (acode oB l h (p + t * d)) < k → k ≤ t → ¬ (l ≤ p + k * d ∧ p + k * d ≤ h) := by
  unfold acode cross1 at *
  rcases hd with rfl | rfl | rfl <;> cases oA <;> cases oB <;> simp only [Int.mul_zero, Int.mul_one, Int.mul_neg_one, Bool.false_eq_true, if_false, if_true, false_implies, true_implies, reduceCtorEq] at * <;>
    (repeat' split at *) <;> (first | omega | (refine ⟨by omega, by omega, by omega, by first | omega | trivial, by first | omega | trivial, by omega, fun k h1 h2 => by omega⟩) | (simp at *; done) | skip)

/-- The point after so many steps. -/
def ptK (P d : Int × Int) (k : Int) : Int × Int := (P.1 + k * d.1, P.2 + k * d.2)

/-- A step lies on a side. -/
def alongB (lx ly hx hy : Int) (a b : Int × Int) : Bool := decide (a.1 = b.1) && (decide (a.1 = lx) || decide (a.1 = hx)) || decide (a.2 = b.2) && (decide (a.2 = ly) || decide (a.2 = hy))

/-- A step is left. -/
def keepB (o : Bool) (lx ly hx hy : Int) (a b : Int × Int) : Bool := hasB lx ly hx hy a.1 a.2 && hasB lx ly hx hy b.1 b.2 && !(o && alongB lx ly hx hy a b)

/-- The step at which a side is crossed: that of the second axis first. -/
def crossK (lx ly hx hy : Int) (P d : Int × Int) (cx cy : Int) : Int := if cy = 0 then cross1 lx hx P.1 d.1 cx else cross1 ly hy P.2 d.2 cy

/-- What the inner loop makes of a line. -/
def segL (lx ly hx hy : Int) (P d : Int × Int) : Nat → Bool → Bool → Int → Int → Option (Int × Int)
  | 0, _, _, _, _ => none
  | n + 1, oA, oB, s, t =>
    let ax := acode oA lx hx (ptK P d s).1
    let ay := acode oA ly hy (ptK P d s).2
    let bx := acode oB lx hx (ptK P d t).1
    let bY := acode oB ly hy (ptK P d t).2
    if (ax = 0 ∧ ay = 0) ∧ (bx = 0 ∧ bY = 0) then some (s, t)
    else if (ax = bx ∧ ax ≠ 0) ∨ (ay = bY ∧ ay ≠ 0) then none
    else if ¬ (ax = 0 ∧ ay = 0) then segL lx ly hx hy P d n false oB (crossK lx ly hx hy P d ax ay) t
    else segL lx ly hx hy P d n oA false s (crossK lx ly hx hy P d bx bY)

/-- One of eight directions. -/
def Dir (d : Int × Int) : Prop := (d.1 = -1 ∨ d.1 = 0 ∨ d.1 = 1) ∧ (d.2 = -1 ∨ d.2 = 0 ∨ d.2 = 1)

/-- The line runs along no side. -/
def Off (lx ly hx hy : Int) (P d : Int × Int) : Prop := (d.1 = 0 → P.1 ≠ lx ∧ P.1 ≠ hx) ∧ (d.2 = 0 → P.2 ≠ ly ∧ P.2 ≠ hy)

/-- What the inner loop keeps. -/
structure SInv (o : Bool) (lx ly hx hy : Int) (P d : Int × Int) (N : Int) (oA oB : Bool) (s t : Int) : Prop where
  lo : 0 ≤ s
  st : s ≤ t
  hi : t ≤ N
  flag : o = false → oA = false ∧ oB = false
  off : o = true → (oA = true ∧ oB = true) ∨ Off lx ly hx hy P d
  ord : oA = true → oB = false → acode oA lx hx (ptK P d s).1 = 0 ∧ acode oA ly hy (ptK P d s).2 = 0
  lt : oA = false → oB = true → s < t
  out : ∀ k, 0 ≤ k → k < N → (k < s ∨ t ≤ k) → keepB o lx ly hx hy (ptK P d k) (ptK P d (k + 1)) = false

theorem keep_out_l {o : Bool} {lx ly hx hy : Int} {a b : Int × Int} (h : ¬ (lx ≤ a.1 ∧ a.1 ≤ hx ∧ ly ≤ a.2 ∧ a.2 ≤ hy)) : keepB o lx ly hx hy a b = false := by
  have : hasB lx ly hx hy a.1 a.2 = false := by
    rw [← Bool.not_eq_true, hasB_iff]; exact h
  simp [keepB, this]

theorem keep_out_r {o : Bool} {lx ly hx hy : Int} {a b : Int × Int} (h : ¬ (lx ≤ b.1 ∧ b.1 ≤ hx ∧ ly ≤ b.2 ∧ b.2 ≤ hy)) : keepB o lx ly hx hy a b = false := by
  have : hasB lx ly hx hy b.1 b.2 = false := by
    rw [← Bool.not_eq_true, hasB_iff]; exact h
  simp [keepB, this]

section
variable {o : Bool} {lx ly hx hy : Int} {P d : Int × Int} {N : Int} {oA oB : Bool} {s t : Int}

/-- The side is met at that step. -/
def Hit (lx ly hx hy : Int) (P d : Int × Int) (cx cy u : Int) : Prop :=
  if cy = 0 then d.1 ≠ 0 ∧ P.1 + u * d.1 = (if cx = 2 then hx else lx) else d.2 ≠ 0 ∧ P.2 + u * d.2 = (if cy = 2 then hy else ly)

/-- What is known of a crossing of the first end. -/
theorem SInv.crossA (h : SInv o lx ly hx hy P d N oA oB s t) (hx' : lx < hx) (hy' : ly < hy) (hd : Dir d)
    (hno : ¬ ((acode oA lx hx (ptK P d s).1 = acode oB lx hx (ptK P d t).1 ∧ acode oA lx hx (ptK P d s).1 ≠ 0) ∨ (acode oA ly hy (ptK P d s).2 = acode oB ly hy (ptK P d t).2 ∧ acode oA ly hy (ptK P d s).2 ≠ 0)))
    (hA : ¬ (acode oA lx hx (ptK P d s).1 = 0 ∧ acode oA ly hy (ptK P d s).2 = 0)) :
    SInv o lx ly hx hy P d N false oB (crossK lx ly hx hy P d (acode oA lx hx (ptK P d s).1) (acode oA ly hy (ptK P d s).2)) t ∧
    s ≤ crossK lx ly hx hy P d (acode oA lx hx (ptK P d s).1) (acode oA ly hy (ptK P d s).2) ∧ (oA = false → s < crossK lx ly hx hy P d (acode oA lx hx (ptK P d s).1) (acode oA ly hy (ptK P d s).2)) ∧ s < t ∧ Hit lx ly hx hy P d (acode oA lx hx (ptK P d s).1) (acode oA ly hy (ptK P d s).2) (crossK lx ly hx hy P d (acode oA lx hx (ptK P d s).1) (acode oA ly hy (ptK P d s).2)) := by
  simp only [ptK] at hno hA ⊢
  have hf : oA = true → oB = true := fun h1 => by
    cases hB : oB with
    | true => rfl
    | false => exact absurd (h.ord h1 hB) hA
  have hoff : o = true → Off lx ly hx hy P d := fun ho => by
    rcases h.off ho with ⟨hA', hB'⟩ | hoff
    · subst hA'; subst hB'
      constructor
      · intro h0
        constructor <;> intro he <;> apply hno <;> left <;> simp [acode, h0, he] <;> omega
      · intro h0
        constructor <;> intro he <;> apply hno <;> right <;> simp [acode, h0, he] <;> omega
    · exact hoff
  have hcl : oB = true → o = true := fun hB => by
    cases ho : o with
    | true => rfl
    | false => have := (h.flag ho).2; rw [hB] at this; cases this
  unfold crossK Hit
  by_cases hy0 : acode oA ly hy (P.2 + s * d.2) = 0
  · rw [if_pos hy0, if_pos hy0]
    have hx0 : acode oA lx hx (P.1 + s * d.1) ≠ 0 := fun e => hA ⟨e, hy0⟩
    obtain ⟨v0, u1, u2, u3, u4, v1, v2, u6⟩ := axisA (oA := oA) (oB := oB) hx' hd.1 h.st hx0 (fun e => hno (.inl ⟨e.symm, hx0⟩)) hf
    refine ⟨⟨by have := h.lo; exact Int.le_trans this u1, u2, h.hi, fun ho => ⟨rfl, (h.flag ho).2⟩, fun ho => .inr (hoff ho), fun h1 => (by cases h1), fun _ hB => u4 hB, fun k k0 kN hk => ?_⟩, u1, u3, v1, v0, v2⟩
    by_cases hks : k < s ∨ t ≤ k
    · exact h.out k k0 kN hks
    · refine keep_out_l fun hin => u6 k (by omega) (by omega) ⟨hin.1, hin.2.1⟩
  · rw [if_neg hy0, if_neg hy0]
    obtain ⟨v0, u1, u2, u3, u4, v1, v2, u6⟩ := axisA (oA := oA) (oB := oB) hy' hd.2 h.st hy0 (fun e => hno (.inr ⟨e.symm, hy0⟩)) hf
    refine ⟨⟨by have := h.lo; exact Int.le_trans this u1, u2, h.hi, fun ho => ⟨rfl, (h.flag ho).2⟩, fun ho => .inr (hoff ho), fun h1 => (by cases h1), fun _ hB => u4 hB, fun k k0 kN hk => ?_⟩, u1, u3, v1, v0, v2⟩
    by_cases hks : k < s ∨ t ≤ k
    · exact h.out k k0 kN hks
    · refine keep_out_l fun hin => u6 k (by omega) (by omega) hin.2.2

/-- What is known of a crossing of the second end. -/
theorem SInv.crossB (h : SInv o lx ly hx hy P d N oA oB s t) (hx' : lx < hx) (hy' : ly < hy) (hd : Dir d)
    (hA : acode oA lx hx (ptK P d s).1 = 0 ∧ acode oA ly hy (ptK P d s).2 = 0) (hB : ¬ (acode oB lx hx (ptK P d t).1 = 0 ∧ acode oB ly hy (ptK P d t).2 = 0)) :
    SInv o lx ly hx hy P d N oA false s (crossK lx ly hx hy P d (acode oB lx hx (ptK P d t).1) (acode oB ly hy (ptK P d t).2)) ∧
    crossK lx ly hx hy P d (acode oB lx hx (ptK P d t).1) (acode oB ly hy (ptK P d t).2) ≤ t ∧ (oB = false → crossK lx ly hx hy P d (acode oB lx hx (ptK P d t).1) (acode oB ly hy (ptK P d t).2) < t) ∧ s < t ∧ Hit lx ly hx hy P d (acode oB lx hx (ptK P d t).1) (acode oB ly hy (ptK P d t).2) (crossK lx ly hx hy P d (acode oB lx hx (ptK P d t).1) (acode oB ly hy (ptK P d t).2)) := by
  simp only [ptK] at hA hB ⊢
  have hoff : o = true → Off lx ly hx hy P d := fun ho => by
    rcases h.off ho with ⟨hA', hB'⟩ | hoff
    · subst hA'
      obtain ⟨a1, a2⟩ := hA
      constructor
      · intro h0
        unfold acode at a1
        rw [h0] at a1
        (repeat' split at a1) <;> (first | omega | (simp at * <;> omega))
      · intro h0
        unfold acode at a2
        rw [h0] at a2
        (repeat' split at a2) <;> (first | omega | (simp at * <;> omega))
    · exact hoff
  have hcl : oB = true → o = true := fun hB => by
    cases ho : o with
    | true => rfl
    | false => have := (h.flag ho).2; rw [hB] at this; cases this
  unfold crossK Hit
  by_cases hy0 : acode oB ly hy (P.2 + t * d.2) = 0
  · rw [if_pos hy0, if_pos hy0]
    have hx0 : acode oB lx hx (P.1 + t * d.1) ≠ 0 := fun e => hB ⟨e, hy0⟩
    obtain ⟨v0, u1, u2, v1, u3, v2, u6⟩ := axisB (oA := oA) (oB := oB) hx' hd.1 h.st hA.1 hx0 (fun h1 h2 => ⟨h.lt h1 h2, (hoff (hcl h2)).1⟩)
    refine ⟨⟨h.lo, u1, Int.le_trans u2 h.hi, fun ho => ⟨(h.flag ho).1, rfl⟩, fun ho => .inr (hoff ho), fun _ _ => hA, fun _ h2 => (by cases h2), fun k k0 kN hk => ?_⟩, u2, u3, v1, v0, v2⟩
    by_cases hks : k < s ∨ t ≤ k
    · exact h.out k k0 kN hks
    · refine keep_out_r fun hin => u6 (k + 1) (by omega) (by omega) ⟨hin.1, hin.2.1⟩
  · rw [if_neg hy0, if_neg hy0]
    obtain ⟨v0, u1, u2, v1, u3, v2, u6⟩ := axisB (oA := oA) (oB := oB) hy' hd.2 h.st hA.2 hy0 (fun h1 h2 => ⟨h.lt h1 h2, (hoff (hcl h2)).2⟩)
    refine ⟨⟨h.lo, u1, Int.le_trans u2 h.hi, fun ho => ⟨(h.flag ho).1, rfl⟩, fun ho => .inr (hoff ho), fun _ _ => hA, fun _ h2 => (by cases h2), fun k k0 kN hk => ?_⟩, u2, u3, v1, v0, v2⟩
    by_cases hks : k < s ∨ t ≤ k
    · exact h.out k k0 kN hks
    · refine keep_out_r fun hin => u6 (k + 1) (by omega) (by omega) hin.2.2

theorem acode_in {o : Bool} {l h x : Int} (_hlh : l < h) (ha : acode o l h x = 0) : l ≤ x ∧ x ≤ h := by
  unfold acode at ha
  (repeat' split at ha) <;> omega

theorem acode_off {l h x : Int} (ha : acode true l h x = 0) : x ≠ l ∧ x ≠ h := by
  unfold acode at ha
  (repeat' split at ha) <;> (first | omega | simp at *)

theorem mid1 {l h p e s t k : Int} (he : e = -1 ∨ e = 0 ∨ e = 1) (h1 : l ≤ p + s * e ∧ p + s * e ≤ h) (h2 : l ≤ p + t * e ∧ p + t * e ≤ h) (hs : s ≤ k) (ht : k ≤ t) : l ≤ p + k * e ∧ p + k * e ≤ h := by
  rcases he with rfl | rfl | rfl <;> omega

theorem beyond1 {l h p e s t k : Int} {o oA oB : Bool} (hlh : l < h) (he : e = -1 ∨ e = 0 ∨ e = 1) (hs : s ≤ k) (ht : k < t) (hc : acode oA l h (p + s * e) = acode oB l h (p + t * e)) (hn : acode oA l h (p + s * e) ≠ 0) (ho : o = false → oA = false ∧ oB = false)
    (hi : (l ≤ p + k * e ∧ p + k * e ≤ h) ∧ (l ≤ p + (k + 1) * e ∧ p + (k + 1) * e ≤ h)) : o = true ∧ e = 0 ∧ (p = l ∨ p = h) := by
  unfold acode at hc hn
  rcases he with rfl | rfl | rfl <;> cases o <;> cases oA <;> cases oB <;> simp only [Bool.false_eq_true, if_false, if_true] at * <;> (first | (simp at ho; done) | ((repeat' split at hc) <;> (first | omega | (simp at *; omega))))

theorem off_along {k : Int} (hoff : Off lx ly hx hy P d) : alongB lx ly hx hy (ptK P d k) (ptK P d (k + 1)) = false := by
  unfold alongB ptK
  rw [Bool.or_eq_false_iff]
  constructor
  · rw [Bool.and_eq_false_imp]
    intro h
    have h := of_decide_eq_true h
    have z : d.1 = 0 := by simp only [Int.add_mul] at h; omega
    obtain ⟨f1, f2⟩ := hoff.1 z
    simp only [z, Int.mul_zero, Int.add_zero]
    simp [f1, f2]
  · rw [Bool.and_eq_false_imp]
    intro h
    have h := of_decide_eq_true h
    have z : d.2 = 0 := by simp only [Int.add_mul] at h; omega
    obtain ⟨f1, f2⟩ := hoff.2 z
    simp only [z, Int.mul_zero, Int.add_zero]
    simp [f1, f2]

theorem seg_main (hx' : lx < hx) (hy' : ly < hy) (hd : Dir d) : ∀ (n : Nat) (oA oB : Bool) (s t : Int), SInv o lx ly hx hy P d N oA oB s t → (t - s).toNat + (if oA = true then 1 else 0) + (if oB = true then 1 else 0) < n →
    (segL lx ly hx hy P d n oA oB s t = none → ¬ (acode oA lx hx (ptK P d s).1 = 0 ∧ acode oA ly hy (ptK P d s).2 = 0) ∧ ¬ (acode oB lx hx (ptK P d t).1 = 0 ∧ acode oB ly hy (ptK P d t).2 = 0) ∧ ∀ k, 0 ≤ k → k < N → keepB o lx ly hx hy (ptK P d k) (ptK P d (k + 1)) = false) ∧
    ∀ s' t', segL lx ly hx hy P d n oA oB s t = some (s', t') → (0 ≤ s' ∧ s' ≤ t' ∧ t' ≤ N) ∧ hasB lx ly hx hy (ptK P d s').1 (ptK P d s').2 = true ∧ hasB lx ly hx hy (ptK P d t').1 (ptK P d t').2 = true ∧
      ((acode oA lx hx (ptK P d s).1 = 0 ∧ acode oA ly hy (ptK P d s).2 = 0) → s' = s) ∧ ((acode oB lx hx (ptK P d t).1 = 0 ∧ acode oB ly hy (ptK P d t).2 = 0) → t' = t) ∧
      ∀ k, 0 ≤ k → k < N → keepB o lx ly hx hy (ptK P d k) (ptK P d (k + 1)) = decide (s' ≤ k ∧ k < t')
  | 0, _, _, _, _, _, hf => absurd hf (Nat.not_lt_zero _)
  | n + 1, oA, oB, s, t, inv, hf => by
    rw [segL]
    by_cases h0 : (acode oA lx hx (ptK P d s).1 = 0 ∧ acode oA ly hy (ptK P d s).2 = 0) ∧ (acode oB lx hx (ptK P d t).1 = 0 ∧ acode oB ly hy (ptK P d t).2 = 0)
    · rw [if_pos h0]
      refine ⟨fun h => (by cases h), fun s' t' h => ?_⟩
      cases h
      have ia := And.intro (acode_in hx' h0.1.1) (acode_in hy' h0.1.2)
      have ib := And.intro (acode_in hx' h0.2.1) (acode_in hy' h0.2.2)
      refine ⟨⟨inv.lo, inv.st, inv.hi⟩, hasB_iff.2 ⟨ia.1.1, ia.1.2, ia.2.1, ia.2.2⟩, hasB_iff.2 ⟨ib.1.1, ib.1.2, ib.2.1, ib.2.2⟩, fun _ => rfl, fun _ => rfl, fun k k0 kN => ?_⟩
      by_cases hk : s ≤ k ∧ k < t
      · rw [decide_eq_true hk]
        have m1 := mid1 hd.1 ia.1 ib.1 hk.1 (Int.le_of_lt hk.2)
        have m2 := mid1 hd.2 ia.2 ib.2 hk.1 (Int.le_of_lt hk.2)
        have m3 := mid1 (k := k + 1) hd.1 ia.1 ib.1 (by omega) (by omega)
        have m4 := mid1 (k := k + 1) hd.2 ia.2 ib.2 (by omega) (by omega)
        have e1 : hasB lx ly hx hy (ptK P d k).1 (ptK P d k).2 = true := hasB_iff.2 ⟨m1.1, m1.2, m2.1, m2.2⟩
        have e2 : hasB lx ly hx hy (ptK P d (k + 1)).1 (ptK P d (k + 1)).2 = true := hasB_iff.2 ⟨m3.1, m3.2, m4.1, m4.2⟩
        have e3 : (o && alongB lx ly hx hy (ptK P d k) (ptK P d (k + 1))) = false := by
          cases ho : o with
          | false => rfl
          | true =>
            have hoff : Off lx ly hx hy P d := by
              rcases inv.off ho with ⟨rfl, rfl⟩ | h
              · have a1 := acode_off h0.1.1
                have a2 := acode_off h0.1.2
                simp only [ptK] at a1 a2
                exact ⟨fun e => by rw [e] at a1; omega, fun e => by rw [e] at a2; omega⟩
              · exact h
            rw [Bool.true_and]
            exact off_along hoff
        simp [keepB, e1, e2, e3]
      · rw [decide_eq_false hk]
        exact inv.out k k0 kN (by omega)
    · rw [if_neg h0]
      by_cases h1 : (acode oA lx hx (ptK P d s).1 = acode oB lx hx (ptK P d t).1 ∧ acode oA lx hx (ptK P d s).1 ≠ 0) ∨ (acode oA ly hy (ptK P d s).2 = acode oB ly hy (ptK P d t).2 ∧ acode oA ly hy (ptK P d s).2 ≠ 0)
      · rw [if_pos h1]
        refine ⟨fun _ => ⟨fun e => ?_, fun e => ?_, fun k k0 kN => ?_⟩, fun s' t' h => (by cases h)⟩
        · rcases h1 with h | h
          · exact h.2 e.1
          · exact h.2 e.2
        · rcases h1 with h | h
          · exact h.2 (h.1.trans e.1)
          · exact h.2 (h.1.trans e.2)
        · by_cases hk : k < s ∨ t ≤ k
          · exact inv.out k k0 kN hk
          · by_cases hi1 : lx ≤ (ptK P d k).1 ∧ (ptK P d k).1 ≤ hx ∧ ly ≤ (ptK P d k).2 ∧ (ptK P d k).2 ≤ hy
            · by_cases hi2 : lx ≤ (ptK P d (k + 1)).1 ∧ (ptK P d (k + 1)).1 ≤ hx ∧ ly ≤ (ptK P d (k + 1)).2 ∧ (ptK P d (k + 1)).2 ≤ hy
              · have hal : o = true ∧ alongB lx ly hx hy (ptK P d k) (ptK P d (k + 1)) = true := by
                  rcases h1 with h | h
                  · obtain ⟨ho, he, hp⟩ := beyond1 hx' hd.1 (by omega) (by omega) h.1 h.2 inv.flag ⟨⟨hi1.1, hi1.2.1⟩, hi2.1, hi2.2.1⟩
                    refine ⟨ho, ?_⟩
                    simp only [alongB, ptK, he]
                    simp
                    omega
                  · obtain ⟨ho, he, hp⟩ := beyond1 hy' hd.2 (by omega) (by omega) h.1 h.2 inv.flag ⟨⟨hi1.2.2.1, hi1.2.2.2⟩, hi2.2.2.1, hi2.2.2.2⟩
                    refine ⟨ho, ?_⟩
                    simp only [alongB, ptK, he]
                    simp
                    omega
                simp [keepB, hal.1, hal.2]
              · exact keep_out_r hi2
            · exact keep_out_l hi1
      · rw [if_neg h1]
        by_cases hA : acode oA lx hx (ptK P d s).1 = 0 ∧ acode oA ly hy (ptK P d s).2 = 0
        · rw [if_neg (by exact not_not_intro hA)]
          have hB : ¬ (acode oB lx hx (ptK P d t).1 = 0 ∧ acode oB ly hy (ptK P d t).2 = 0) := fun h => h0 ⟨hA, h⟩
          obtain ⟨inv', u1, u2, _⟩ := inv.crossB hx' hy' hd hA hB
          have hm : (crossK lx ly hx hy P d (acode oB lx hx (ptK P d t).1) (acode oB ly hy (ptK P d t).2) - s).toNat + (if oA = true then 1 else 0) + (if false = true then 1 else 0) < n := by
            have := inv'.st
            cases oB with
            | false => have := u2 rfl; simp only [Bool.false_eq_true, if_false] at hf ⊢; omega
            | true => simp only [Bool.false_eq_true, if_false, if_true] at hf ⊢; omega
          obtain ⟨r1, r2⟩ := seg_main hx' hy' hd n oA false s _ inv' hm
          refine ⟨fun h => absurd hA (r1 h).1, fun s' t' h => ?_⟩
          obtain ⟨q1, q2, q3, q4, _, q6⟩ := r2 s' t' h
          exact ⟨q1, q2, q3, q4, fun h => absurd h hB, q6⟩
        · rw [if_pos hA]
          obtain ⟨inv', u1, u2, _⟩ := inv.crossA hx' hy' hd h1 hA
          have hm : (t - crossK lx ly hx hy P d (acode oA lx hx (ptK P d s).1) (acode oA ly hy (ptK P d s).2)).toNat + (if false = true then 1 else 0) + (if oB = true then 1 else 0) < n := by
            have := inv'.st
            cases oA with
            | false => have := u2 rfl; simp only [Bool.false_eq_true, if_false] at hf ⊢; omega
            | true => simp only [Bool.false_eq_true, if_false, if_true] at hf ⊢; omega
          obtain ⟨r1, r2⟩ := seg_main hx' hy' hd n false oB _ t inv' hm
          refine ⟨fun h => ⟨hA, (r1 h).2⟩, fun s' t' h => ?_⟩
          obtain ⟨q1, q2, q3, _, q5, q6⟩ := r2 s' t' h
          exact ⟨q1, q2, q3, fun h => absurd h hA, q5, q6⟩
end

/-- From one point to another: the direction, and how many steps. -/
def sgn (n : Int) : Int := max (-1) (min 1 n)
def dirK (P Q : Int × Int) : Int × Int := (sgn (Q.1 - P.1), sgn (Q.2 - P.2))
def lenK (P Q : Int × Int) : Int := max (max (Q.1 - P.1) (P.1 - Q.1)) (max (Q.2 - P.2) (P.2 - Q.2))

theorem dir_ok (P Q : Int × Int) : Dir (dirK P Q) := by
  unfold Dir dirK sgn; constructor <;> simp only <;> omega

theorem len_nonneg (P Q : Int × Int) : 0 ≤ lenK P Q := by unfold lenK; omega

theorem pt_zero (P d : Int × Int) : ptK P d 0 = P := by unfold ptK; simp

theorem pt_len {P Q : Int × Int} (h : Octi P Q) : ptK P (dirK P Q) (lenK P Q) = Q := by
  have hd := dir_ok P Q
  unfold Octi at h
  have e1 : (dirK P Q).1 = sgn (Q.1 - P.1) := rfl
  have e2 : (dirK P Q).2 = sgn (Q.2 - P.2) := rfl
  unfold ptK
  refine Prod.ext ?_ ?_
  · show P.1 + lenK P Q * (dirK P Q).1 = Q.1
    rcases hd.1 with e | e | e <;> rw [e1] at e <;> rw [e1, e] <;> unfold sgn at e <;> unfold lenK <;> omega
  · show P.2 + lenK P Q * (dirK P Q).2 = Q.2
    rcases hd.2 with e | e | e <;> rw [e2] at e <;> rw [e2, e] <;> unfold sgn at e <;> unfold lenK <;> omega

theorem near_mid {P d : Int × Int} (hd : Dir d) {N k : Int} (hP : Near P) (hQ : Near (ptK P d N)) (h0 : 0 ≤ k) (hN : k ≤ N) : Near (ptK P d k) := by
  unfold Near ptK at *
  refine ⟨mid1 hd.1 (s := 0) (t := N) (by simpa using hP.1) hQ.1 h0 hN, mid1 hd.2 (s := 0) (t := N) (by simpa using hP.2) hQ.2 h0 hN⟩

theorem inv_start {o : Bool} {lx ly hx hy : Int} {P d : Int × Int} {N : Int} (h : 0 ≤ N) : SInv o lx ly hx hy P d N o o 0 N :=
  ⟨by omega, h, by omega, fun ho => ⟨ho, ho⟩, fun ho => .inl ⟨ho, ho⟩, fun h1 h2 => (by rw [h1] at h2; cases h2), fun h1 h2 => (by rw [h1] at h2; cases h2), fun k k0 kN hk => by omega⟩
end Go.Proofs.Ytafanlbfbfbeoaa
