/- What a side of the box leaves of a ring: the walk's own words. -/
import Derived.Test.YtafanlbfbfbeoaaIt
import Derived.Test.YtafanlbfbfbeoaaWayB
namespace Go.Proofs.Ytafanlbfbfbeoaa
open Go.RowKit Ieee

abbrev Side (e : Int) : Prop := e = 1 ∨ e = 2 ∨ e = 4 ∨ e = 8

/-- Whether a point lies on the inner side of one of the sides of a box. -/
def inB (lx ly hx hy e : Int) (p : Int × Int) : Bool := if e = 1 then decide (lx ≤ p.1) else if e = 2 then decide (p.1 ≤ hx) else if e = 4 then decide (ly ≤ p.2) else decide (p.2 ≤ hy)

theorem inB_1 (lx ly hx hy : Int) (p : Int × Int) : inB lx ly hx hy 1 p = decide (lx ≤ p.1) := rfl
theorem inB_2 (lx ly hx hy : Int) (p : Int × Int) : inB lx ly hx hy 2 p = decide (p.1 ≤ hx) := rfl
theorem inB_4 (lx ly hx hy : Int) (p : Int × Int) : inB lx ly hx hy 4 p = decide (ly ≤ p.2) := rfl
theorem inB_8 (lx ly hx hy : Int) (p : Int × Int) : inB lx ly hx hy 8 p = decide (p.2 ≤ hy) := rfl

/-- Where a line crosses it. -/
def cutP (lx ly hx hy e : Int) (q p : Int × Int) : Int × Int :=
  if e = 8 then (q.1 + (p.1 - q.1) * (hy - q.2) / (p.2 - q.2), hy) else if e = 4 then (q.1 + (p.1 - q.1) * (ly - q.2) / (p.2 - q.2), ly)
  else if e = 2 then (hx, q.2 + (p.2 - q.2) * (hx - q.1) / (p.1 - q.1)) else (lx, q.2 + (p.2 - q.2) * (lx - q.1) / (p.1 - q.1))

/-- A line along an axis, or just between both. -/
def Octi (q p : Int × Int) : Prop := q.1 = p.1 ∨ q.2 = p.2 ∨ p.1 - q.1 = p.2 - q.2 ∨ p.1 - q.1 = -(p.2 - q.2)

theorem code_in {lx ly hx hy e x y : Int} (he : Side e) (h1 : lx ≤ hx) (h2 : ly ≤ hy) : (bits .and .i64 (codeI lx ly hx hy x y) e == 0) = inB lx ly hx hy e (x, y) := by
  have key : ∀ a b : Int, (a = 0 ∨ a = 1 ∨ a = 2) → (b = 0 ∨ b = 4 ∨ b = 8) → (bits .and .i64 (a + b) 1 == 0) = decide (a ≠ 1) ∧ (bits .and .i64 (a + b) 2 == 0) = decide (a ≠ 2) ∧ (bits .and .i64 (a + b) 4 == 0) = decide (b ≠ 4) ∧ (bits .and .i64 (a + b) 8 == 0) = decide (b ≠ 8) := by
    rintro a b (rfl | rfl | rfl) (rfl | rfl | rfl) <;> decide
  obtain ⟨k1, k2, k4, k8⟩ := key (if x < lx then 1 else if hx < x then 2 else 0) (if y < ly then 4 else if hy < y then 8 else 0) (by (repeat' split) <;> simp) (by (repeat' split) <;> simp)
  unfold codeI
  rcases he with rfl | rfl | rfl | rfl
  · rw [k1, inB_1, decide_eq_decide]; (repeat' split) <;> omega
  · rw [k2, inB_2, decide_eq_decide]; (repeat' split) <;> omega
  · rw [k4, inB_4, decide_eq_decide]; (repeat' split) <;> omega
  · rw [k8, inB_8, decide_eq_decide]; (repeat' split) <;> omega

theorem mid_cut {a b c m s : Int} (hs : s = 0 ∨ s = 1 ∨ s = -1) (hb : b = s * c) (hc : c ≠ 0) : b * (m - a) / c = s * (m - a) ∧ b * (m - a) = s * (m - a) * c := by
  have e : b * (m - a) = s * (m - a) * c := by rw [hb, Int.mul_assoc, Int.mul_comm c, ← Int.mul_assoc]
  exact ⟨by rw [e, Int.mul_ediv_cancel _ hc], e⟩

theorem octi_slope {dx dy : Int} (h : dx = 0 ∨ dy = 0 ∨ dx = dy ∨ dx = -dy) (hy : dy ≠ 0) : ∃ s : Int, (s = 0 ∨ s = 1 ∨ s = -1) ∧ dx = s * dy := by
  rcases h with h | h | h | h
  · exact ⟨0, by simp, by simp [h]⟩
  · exact absurd h hy
  · exact ⟨1, by simp, by omega⟩
  · exact ⟨-1, by simp, by omega⟩

theorem arith_cut {ax ay bx by' m : Int} (h : bx - ax = 0 ∨ by' - ay = 0 ∨ bx - ax = by' - ay ∨ bx - ax = -(by' - ay)) (hc : by' - ay ≠ 0)
    (h1 : -3000 ≤ ax ∧ ax ≤ 3000) (h2 : -3000 ≤ ay ∧ ay ≤ 3000) (h3 : -3000 ≤ bx ∧ bx ≤ 3000) (h4 : -3000 ≤ by' ∧ by' ≤ 3000) (h5 : -3000 ≤ m ∧ m ≤ 3000) :
    Arith ax (bx - ax) (m - ay) (by' - ay) (ax + (bx - ax) * (m - ay) / (by' - ay)) := by
  obtain ⟨s, hs, hb⟩ := octi_slope h hc
  obtain ⟨e1, e2⟩ := mid_cut (a := ay) (m := m) hs hb hc
  rw [e1]
  refine isect_float ⟨by omega, by omega⟩ ⟨by omega, by omega⟩ ⟨by omega, by omega⟩ ⟨by omega, by omega⟩ hc e2 ?_ ?_
  · rcases hs with rfl | rfl | rfl <;> exact ⟨by omega, by omega⟩
  · rcases hs with rfl | rfl | rfl <;> exact ⟨by omega, by omega⟩

theorem cut_any (lx ly hx hy e : Int) (q p : Int × Int) (he : Side e) (hl : Near (lx, ly)) (hh : Near (hx, hy)) (hq : Near q) (hp : Near p) (ho : Octi q p) (hd : inB lx ly hx hy e p ≠ inB lx ly hx hy e q) (w : World) :
    Calls Try.prog 67 #[.agg #[.float .f64 (F lx), .float .f64 (F ly), .float .f64 (F hx), .float .f64 (F hy)], .int .i64 e, .agg #[.float .f64 (F q.1), .float .f64 (F q.2)], .agg #[.float .f64 (F p.1), .float .f64 (F p.2)]] w
      fun r w' => r = .returned (.agg #[.float .f64 (F (cutP lx ly hx hy e q p).1), .float .f64 (F (cutP lx ly hx hy e q p).2)]) ∧ Below w.heap.size w w' := by
  have o1 : p.1 - q.1 = 0 ∨ p.2 - q.2 = 0 ∨ p.1 - q.1 = p.2 - q.2 ∨ p.1 - q.1 = -(p.2 - q.2) := by unfold Octi at ho; omega
  have o2 : p.2 - q.2 = 0 ∨ p.1 - q.1 = 0 ∨ p.2 - q.2 = p.1 - q.1 ∨ p.2 - q.2 = -(p.1 - q.1) := by unfold Octi at ho; omega
  rcases he with rfl | rfl | rfl | rfl
  · rw [inB_1, inB_1, ne_eq, decide_eq_decide] at hd
    exact isect_left 1 lx ly hx hy q.1 q.2 p.1 p.2 _ hl.sm.1 hq.sm.1 hq.sm.2 hp.sm.1 hp.sm.2 (by show _ = _; decide) (by show _ = _; decide) (by show _ = _; decide) (by show _ = _; decide) (arith_cut o2 (by omega) hq.2 hq.1 hp.2 hp.1 hl.1) w
  · rw [inB_2, inB_2, ne_eq, decide_eq_decide] at hd
    exact isect_right 2 lx ly hx hy q.1 q.2 p.1 p.2 _ hh.sm.1 hq.sm.1 hq.sm.2 hp.sm.1 hp.sm.2 (by show _ = _; decide) (by show _ = _; decide) (by show _ = _; decide) (arith_cut o2 (by omega) hq.2 hq.1 hp.2 hp.1 hh.1) w
  · rw [inB_4, inB_4, ne_eq, decide_eq_decide] at hd
    exact isect_bottom 4 lx ly hx hy q.1 q.2 p.1 p.2 _ hl.sm.2 hq.sm.1 hq.sm.2 hp.sm.1 hp.sm.2 (by show _ = _; decide) (by show _ = _; decide) (arith_cut o1 (by omega) hq.1 hq.2 hp.1 hp.2 hl.2) w
  · rw [inB_8, inB_8, ne_eq, decide_eq_decide] at hd
    exact isect_top 8 lx ly hx hy q.1 q.2 p.1 p.2 _ hh.sm.2 hq.sm.1 hq.sm.2 hp.sm.1 hp.sm.2 (by show _ = _; decide) (arith_cut o1 (by omega) hq.1 hq.2 hp.1 hp.2 hh.2) w

/-- What a step onto a point leaves. -/
def emit (ins : Int × Int → Bool) (cut : Int × Int → Int × Int → Int × Int) (q p : Int × Int) : List (Int × Int) := (if ins p = ins q then [] else [cut q p]) ++ (if ins p then [p] else [])

def clipL (ins : Int × Int → Bool) (cut : Int × Int → Int × Int → Int × Int) : Int × Int → List (Int × Int) → List (Int × Int)
  | _, [] => []
  | q, p :: ps => emit ins cut q p ++ clipL ins cut p ps

/-- The last of some points, or the one ahead of them. -/
def lastOr (q : Int × Int) (l : List (Int × Int)) : Int × Int := l.getLast?.getD q

theorem clip_snoc (ins : Int × Int → Bool) (cut : Int × Int → Int × Int → Int × Int) : ∀ (l : List (Int × Int)) (q p : Int × Int), clipL ins cut q (l ++ [p]) = clipL ins cut q l ++ emit ins cut (lastOr q l) p
  | [], q, p => by simp [clipL, lastOr]
  | x :: l, q, p => by
    rw [List.cons_append, clipL, clipL, clip_snoc ins cut l x p, List.append_assoc]
    congr 3
    cases l with
    | nil => rfl
    | cons y l => simp [lastOr, List.getLast?_cons_cons, List.getLast?_eq_some_getLast]

/-- One of the four sides, of a ring. -/
def passL (lx ly hx hy e : Int) (ps : List (Int × Int)) : List (Int × Int) := clipL (inB lx ly hx hy e) (cutP lx ly hx hy e) (lastOr (0, 0) ps) ps

/-- All four, and the first point again, if it is not the last one. -/
def closeL (ps : List (Int × Int)) : List (Int × Int) := if ps.head? = ps.getLast? then ps else ps ++ ps.head?.toList

def sidesL (lx ly hx hy : Int) (ps : List (Int × Int)) : List (Int × Int) := passL lx ly hx hy 8 (passL lx ly hx hy 4 (passL lx ly hx hy 2 (passL lx ly hx hy 1 ps)))

def ringL (lx ly hx hy : Int) (ps : List (Int × Int)) : List (Int × Int) := closeL (sidesL lx ly hx hy ps)

/-- All its lines, the one from the last point to the first too, go along an axis, or between both. -/
def OctiL : Int × Int → List (Int × Int) → Prop
  | _, [] => True
  | q, p :: ps => Octi q p ∧ OctiL p ps

def OctiR (ps : List (Int × Int)) : Prop := OctiL (lastOr (0, 0) ps) ps

/-- On the line of a side. -/
def onB (lx ly hx hy e : Int) (r : Int × Int) : Prop := if e = 1 then r.1 = lx else if e = 2 then r.1 = hx else if e = 4 then r.2 = ly else r.2 = hy

theorem onB_1 (lx ly hx hy : Int) (p : Int × Int) : onB lx ly hx hy 1 p = (p.1 = lx) := rfl
theorem onB_2 (lx ly hx hy : Int) (p : Int × Int) : onB lx ly hx hy 2 p = (p.1 = hx) := rfl
theorem onB_4 (lx ly hx hy : Int) (p : Int × Int) : onB lx ly hx hy 4 p = (p.2 = ly) := rfl
theorem onB_8 (lx ly hx hy : Int) (p : Int × Int) : onB lx ly hx hy 8 p = (p.2 = hy) := rfl

theorem on_octi {lx ly hx hy e : Int} {r c : Int × Int} (he : Side e) (h1 : onB lx ly hx hy e r) (h2 : onB lx ly hx hy e c) : Octi r c := by
  unfold Octi
  rcases he with rfl | rfl | rfl | rfl
  · rw [onB_1] at h1 h2; omega
  · rw [onB_2] at h1 h2; omega
  · rw [onB_4] at h1 h2; omega
  · rw [onB_8] at h1 h2; omega

/-- The crossing, from its slope. -/
theorem cut_form {lx ly hx hy e : Int} {q p : Int × Int} (he : Side e) (ho : Octi q p) (hd : inB lx ly hx hy e p ≠ inB lx ly hx hy e q) :
    ∃ s : Int, (s = 0 ∨ s = 1 ∨ s = -1) ∧ ((∃ m, ((e = 8 ∧ m = hy) ∨ (e = 4 ∧ m = ly)) ∧ p.1 - q.1 = s * (p.2 - q.2) ∧ cutP lx ly hx hy e q p = (q.1 + s * (m - q.2), m) ∧ (q.2 ≤ m ∧ m ≤ p.2 ∨ p.2 ≤ m ∧ m ≤ q.2)) ∨
      (∃ m, ((e = 2 ∧ m = hx) ∨ (e = 1 ∧ m = lx)) ∧ p.2 - q.2 = s * (p.1 - q.1) ∧ cutP lx ly hx hy e q p = (m, q.2 + s * (m - q.1)) ∧ (q.1 ≤ m ∧ m ≤ p.1 ∨ p.1 ≤ m ∧ m ≤ q.1))) := by
  have o1 : p.1 - q.1 = 0 ∨ p.2 - q.2 = 0 ∨ p.1 - q.1 = p.2 - q.2 ∨ p.1 - q.1 = -(p.2 - q.2) := by unfold Octi at ho; omega
  have o2 : p.2 - q.2 = 0 ∨ p.1 - q.1 = 0 ∨ p.2 - q.2 = p.1 - q.1 ∨ p.2 - q.2 = -(p.1 - q.1) := by unfold Octi at ho; omega
  rcases he with rfl | rfl | rfl | rfl
  · rw [inB_1, inB_1, ne_eq, decide_eq_decide] at hd
    obtain ⟨s, hs, hb⟩ := octi_slope o2 (by omega)
    refine ⟨s, hs, .inr ⟨lx, .inr ⟨rfl, rfl⟩, hb, ?_, by omega⟩⟩
    show (lx, q.2 + (p.2 - q.2) * (lx - q.1) / (p.1 - q.1)) = _
    rw [(mid_cut (m := lx) (a := q.1) hs hb (by omega)).1]
  · rw [inB_2, inB_2, ne_eq, decide_eq_decide] at hd
    obtain ⟨s, hs, hb⟩ := octi_slope o2 (by omega)
    refine ⟨s, hs, .inr ⟨hx, .inl ⟨rfl, rfl⟩, hb, ?_, by omega⟩⟩
    show (hx, q.2 + (p.2 - q.2) * (hx - q.1) / (p.1 - q.1)) = _
    rw [(mid_cut (m := hx) (a := q.1) hs hb (by omega)).1]
  · rw [inB_4, inB_4, ne_eq, decide_eq_decide] at hd
    obtain ⟨s, hs, hb⟩ := octi_slope o1 (by omega)
    refine ⟨s, hs, .inl ⟨ly, .inr ⟨rfl, rfl⟩, hb, ?_, by omega⟩⟩
    show (q.1 + (p.1 - q.1) * (ly - q.2) / (p.2 - q.2), ly) = _
    rw [(mid_cut (m := ly) (a := q.2) hs hb (by omega)).1]
  · rw [inB_8, inB_8, ne_eq, decide_eq_decide] at hd
    obtain ⟨s, hs, hb⟩ := octi_slope o1 (by omega)
    refine ⟨s, hs, .inl ⟨hy, .inl ⟨rfl, rfl⟩, hb, ?_, by omega⟩⟩
    show (q.1 + (p.1 - q.1) * (hy - q.2) / (p.2 - q.2), hy) = _
    rw [(mid_cut (m := hy) (a := q.2) hs hb (by omega)).1]

theorem cut_facts {lx ly hx hy e : Int} {q p : Int × Int} (he : Side e) (hq : Near q) (hp : Near p) (ho : Octi q p) (hd : inB lx ly hx hy e p ≠ inB lx ly hx hy e q) :
    Octi q (cutP lx ly hx hy e q p) ∧ Octi (cutP lx ly hx hy e q p) p ∧ onB lx ly hx hy e (cutP lx ly hx hy e q p) ∧ Near (cutP lx ly hx hy e q p) := by
  obtain ⟨s, hs, ⟨m, hm, hb, hc, hr⟩ | ⟨m, hm, hb, hc, hr⟩⟩ := cut_form he ho hd
  · rw [hc]
    obtain ⟨⟨q1, q2⟩, q3, q4⟩ := hq
    obtain ⟨⟨p1, p2⟩, p3, p4⟩ := hp
    refine ⟨?_, ?_, ?_, ?_⟩
    · unfold Octi; rcases hs with rfl | rfl | rfl <;> simp only <;> omega
    · unfold Octi; rcases hs with rfl | rfl | rfl <;> simp only <;> omega
    · rcases hm with ⟨rfl, rfl⟩ | ⟨rfl, rfl⟩ <;> rfl
    · unfold Near; rcases hs with rfl | rfl | rfl <;> simp only <;> omega
  · rw [hc]
    obtain ⟨⟨q1, q2⟩, q3, q4⟩ := hq
    obtain ⟨⟨p1, p2⟩, p3, p4⟩ := hp
    refine ⟨?_, ?_, ?_, ?_⟩
    · unfold Octi; rcases hs with rfl | rfl | rfl <;> simp only <;> omega
    · unfold Octi; rcases hs with rfl | rfl | rfl <;> simp only <;> omega
    · rcases hm with ⟨rfl, rfl⟩ | ⟨rfl, rfl⟩ <;> rfl
    · unfold Near; rcases hs with rfl | rfl | rfl <;> simp only <;> omega

theorem emit_len (ins : Int × Int → Bool) (cut : Int × Int → Int × Int → Int × Int) (q p : Int × Int) : (emit ins cut q p).length ≤ 2 := by
  unfold emit
  split <;> split <;> simp

theorem clip_len (ins : Int × Int → Bool) (cut : Int × Int → Int × Int → Int × Int) : ∀ (l : List (Int × Int)) (q : Int × Int), (clipL ins cut q l).length ≤ 2 * l.length
  | [], q => by simp [clipL]
  | p :: l, q => by
    have h1 := emit_len ins cut q p
    have h2 := clip_len ins cut l p
    simp only [clipL, List.length_append, List.length_cons]
    omega

theorem lastOr_cons (q p : Int × Int) (l : List (Int × Int)) : lastOr q (p :: l) = lastOr p l := by
  cases l with
  | nil => rfl
  | cons y l => simp [lastOr, List.getLast?_cons_cons, List.getLast?_eq_some_getLast]

theorem lastOr_append (q : Int × Int) (a b : List (Int × Int)) : lastOr q (a ++ b) = lastOr (lastOr q a) b := by
  induction a generalizing q with
  | nil => rfl
  | cons x a ih => rw [List.cons_append, lastOr_cons, lastOr_cons, ih]

theorem octiL_append : ∀ (a b : List (Int × Int)) (q : Int × Int), OctiL q (a ++ b) ↔ OctiL q a ∧ OctiL (lastOr q a) b
  | [], b, q => by simp [OctiL, lastOr]
  | x :: a, b, q => by rw [List.cons_append, OctiL, OctiL, octiL_append a b x, lastOr_cons, and_assoc]

/-- How the last point that is left stands to the last one of the ring. -/
def Inv (lx ly hx hy e : Int) (q r : Int × Int) : Prop := (inB lx ly hx hy e q = true → r = q) ∧ (inB lx ly hx hy e q = false → onB lx ly hx hy e r)

theorem clip_octi {lx ly hx hy e : Int} (he : Side e) : ∀ (l : List (Int × Int)) (q r : Int × Int), Near q → (∀ p ∈ l, Near p) → OctiL q l → Inv lx ly hx hy e q r →
    OctiL r (clipL (inB lx ly hx hy e) (cutP lx ly hx hy e) q l) ∧ Inv lx ly hx hy e (lastOr q l) (lastOr r (clipL (inB lx ly hx hy e) (cutP lx ly hx hy e) q l)) ∧ ∀ p ∈ clipL (inB lx ly hx hy e) (cutP lx ly hx hy e) q l, Near p
  | [], q, r, _, _, _, hi => ⟨trivial, hi, by simp [clipL]⟩
  | p :: l, q, r, hq, hn, ho, hi => by
    have hp : Near p := hn p (by simp)
    have step : OctiL r (emit (inB lx ly hx hy e) (cutP lx ly hx hy e) q p) ∧ Inv lx ly hx hy e p (lastOr r (emit (inB lx ly hx hy e) (cutP lx ly hx hy e) q p)) ∧ ∀ u ∈ emit (inB lx ly hx hy e) (cutP lx ly hx hy e) q p, Near u := by
      unfold emit
      cases hpi : inB lx ly hx hy e p <;> cases hqi : inB lx ly hx hy e q
      · refine ⟨by simp [OctiL], ⟨by simp [hpi], fun _ => ?_⟩, by simp⟩
        simpa [lastOr] using hi.2 hqi
      · obtain ⟨f1, f2, f3, f4⟩ := cut_facts he hq hp ho.1 (by rw [hpi, hqi]; decide)
        obtain rfl := hi.1 hqi
        refine ⟨by simp [OctiL, f1], ⟨by simp [hpi], fun _ => ?_⟩, by simpa using f4⟩
        simpa [lastOr] using f3
      · obtain ⟨f1, f2, f3, f4⟩ := cut_facts he hq hp ho.1 (by rw [hpi, hqi]; decide)
        refine ⟨by simp [OctiL, f2, on_octi he (hi.2 hqi) f3], ⟨fun _ => by simp [lastOr], by simp [hpi]⟩, ?_⟩
        intro u hu
        simp at hu
        rcases hu with rfl | rfl
        · exact f4
        · exact hp
      · obtain rfl := hi.1 hqi
        refine ⟨by simp [OctiL, ho.1], ⟨fun _ => by simp [lastOr], by simp [hpi]⟩, by simpa using hp⟩
    obtain ⟨i1, i2, i3⟩ := clip_octi he l p (lastOr r (emit (inB lx ly hx hy e) (cutP lx ly hx hy e) q p)) hp (fun u hu => hn u (by simp [hu])) ho.2 step.2.1
    rw [clipL, octiL_append, lastOr_append, lastOr_cons]
    refine ⟨⟨step.1, i1⟩, i2, fun u hu => ?_⟩
    rcases List.mem_append.1 hu with h | h
    · exact step.2.2 u h
    · exact i3 u h

theorem lastOr_mem {l : List (Int × Int)} (q : Int × Int) (h : l ≠ []) : lastOr q l ∈ l := by
  unfold lastOr
  rw [List.getLast?_eq_some_getLast h]
  exact List.getLast_mem h

theorem lastOr_ne {l : List (Int × Int)} (q r : Int × Int) (h : l ≠ []) : lastOr q l = lastOr r l := by
  unfold lastOr
  rw [List.getLast?_eq_some_getLast h]
  rfl

theorem pass_facts {lx ly hx hy e : Int} (he : Side e) (ps : List (Int × Int)) (hn : ∀ p ∈ ps, Near p) (ho : OctiR ps) :
    OctiR (passL lx ly hx hy e ps) ∧ (∀ p ∈ passL lx ly hx hy e ps, Near p) ∧ (passL lx ly hx hy e ps).length ≤ 2 * ps.length := by
  by_cases hz : ps = []
  · subst hz; exact ⟨trivial, by simp [passL, clipL], by simp [passL, clipL]⟩
  have hq : Near (lastOr (0, 0) ps) := hn _ (lastOr_mem _ hz)
  have hb : ∃ b, Inv lx ly hx hy e (lastOr (0, 0) ps) b := by
    cases hi : inB lx ly hx hy e (lastOr (0, 0) ps)
    · refine ⟨(if e = 1 then lx else hx, if e = 4 then ly else hy), by simp [hi], fun _ => ?_⟩
      rcases he with rfl | rfl | rfl | rfl <;> rfl
    · exact ⟨_, fun _ => rfl, by simp [hi]⟩
  obtain ⟨b, hb⟩ := hb
  obtain ⟨i1, i2, i3⟩ := clip_octi he ps _ b hq hn ho hb
  refine ⟨?_, i3, clip_len _ _ _ _⟩
  by_cases hy' : passL lx ly hx hy e ps = []
  · rw [hy']; trivial
  · have e1 : lastOr (lastOr (0, 0) ps) ps = lastOr (0, 0) ps := lastOr_ne _ _ hz
    rw [e1] at i2
    have e2 : lastOr b (passL lx ly hx hy e ps) = lastOr (0, 0) (passL lx ly hx hy e ps) := lastOr_ne _ _ hy'
    have i4 : Inv lx ly hx hy e (lastOr (0, 0) ps) (lastOr (0, 0) (passL lx ly hx hy e ps)) := by rw [← e2]; exact i2
    exact (clip_octi he ps _ _ hq hn ho i4).1
end Go.Proofs.Ytafanlbfbfbeoaa
