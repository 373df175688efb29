/- The point at which a line crosses a side of the box; where a point lies. -/
import Derived.Test.YtafanlbfbfbeoaaHas
namespace Go.Proofs.Ytafanlbfbfbeoaa
open Go.RowKit Ieee

theorem read_write_rep {r : Datum} {n : Int} (h : Rep 0 r n) (hn : n.natAbs < 2 ^ 53) : Rep 0 (Ieee.double.read (Ieee.double.write r)) n := by
  by_cases hz : n = 0
  · subst hz
    obtain ⟨g, m, i, rfl, hi, hv⟩ := h
    have va := rep_val (s := 0) (n := 0) ⟨g, m, i, rfl, hi, hv⟩
    obtain ⟨_, sz, _⟩ := sign_of_mul va.2
    have hm : m = 0 := by cases g <;> simp at sz <;> omega
    subst hm
    have e : Ieee.double.write (.number g 0 i) = Ieee.double.word g 0 := by simp [Format.write, Format.nearest]
    rw [e]
    cases g
    · have : Ieee.double.read (Ieee.double.word false 0) = .number false 0 (-1074) := by decide
      rw [this]; exact rep_iff _ _ _ _ _ (by omega) (by simp only [Nat.zero_mul, Int.natCast_zero, ite_self, Int.neg_zero, Int.zero_mul, if_true, if_false, Bool.false_eq_true])
    · have : Ieee.double.read (Ieee.double.word true 0) = .number true 0 (-1074) := by decide
      rw [this]; exact rep_iff _ _ _ _ _ (by omega) (by simp only [Nat.zero_mul, Int.natCast_zero, ite_self, Int.neg_zero, Int.zero_mul, if_true, if_false, Bool.false_eq_true])
  · rw [write_rep (by omega) ⟨h, fun e => absurd e hz⟩ hn]
    exact (read_rep 0 n (by omega) hn).1

theorem mul_small {a b : Int} (ha : Sm a) (hb : Sm b) : (a * b).natAbs < 2 ^ 53 := by
  rw [Int.natAbs_mul]
  have h1 : a.natAbs ≤ 1000000 := by have := ha.1; have := ha.2; omega
  have h2 : b.natAbs ≤ 1000000 := by have := hb.1; have := hb.2; omega
  exact Nat.lt_of_le_of_lt (Nat.mul_le_mul h1 h2) (by decide)

theorem isect_float {x a b c q : Int} (hx : Sm x) (ha : Sm a) (hb : Sm b) (hc : Sm c) (hc0 : c ≠ 0) (hq : a * b = q * c) (hq1 : Sm q) (hq' : Sm (x + q)) :
    ∃ m d, FloatKind.f64.format.mul (F a) (F b) = some m ∧ FloatKind.f64.format.div m (F c) = some d ∧ FloatKind.f64.format.add (F x) d = some (F (x + q)) := by
  have hab := mul_small ha hb
  obtain ⟨r, hr, hp⟩ := rep_product (read_F ha.abs).1 (read_F hb.abs).1
  have hp0 : Rep 0 r (a * b) := hp
  have hp1 := read_write_rep hp0 hab
  obtain ⟨r2, hr2, hp2⟩ := rep_quotient (s := 0) (s' := 0) (q := q) (b := c) (by rw [← hq]; exact hp1) (read_F hc.abs).1 hc0 (by rw [← hq]; exact hab) hc.abs
  have hp3 := read_write_rep hp2 hq1.abs
  obtain ⟨r3, hr3, hp4⟩ := rep_sum (read_F hx.abs) hp3
  refine ⟨Ieee.double.write r, Ieee.double.write r2, ?_, ?_, ?_⟩
  · show ((Ieee.double.read (F a)).product (Ieee.double.read (F b))).map Ieee.double.write = _
    rw [hr]; rfl
  · show ((Ieee.double.read (Ieee.double.write r)).quotient 54 (Ieee.double.read (F c))).map Ieee.double.write = _
    rw [hr2]; rfl
  · show ((Ieee.double.read (F x)).sum (Ieee.double.read (Ieee.double.write r2))).map Ieee.double.write = _
    rw [hr3, Option.map_some, write_rep (by omega) hp4 hq'.abs]
    rfl

/-- Where a point lies to a box. -/
def codeI (lx ly hx hy x y : Int) : Int := (if x < lx then 1 else if hx < x then 2 else 0) + (if y < ly then 4 else if hy < y then 8 else 0)

set_option maxRecDepth 100000 in
set_option maxHeartbeats 1000000 in
theorem bitCode_any (lx ly hx hy x y : Int) (h1 : Sm lx) (h2 : Sm ly) (h3 : Sm hx) (h4 : Sm hy) (h5 : Sm x) (h6 : Sm y) (w : World) :
    Calls Try.prog 65 #[.agg #[.float .f64 (F lx), .float .f64 (F ly), .float .f64 (F hx), .float .f64 (F hy)], .agg #[.float .f64 (F x), .float .f64 (F y)]] w
      fun e w' => e = .returned (.int .i64 (codeI lx ly hx hy x y)) ∧ Below w.heap.size w w' := by
  go_enter Try.func65, Try.ntmps65
  go_wp2
  all_goals
    go_ret
    refine ⟨ret_int ?_, ((Below.refl _ _).alloc (Nat.le_refl _) _).alloc (by simp) _⟩
    unfold codeI
    have e1 : bits .or .i64 0 1 = 1 := by decide
    have e2 : bits .or .i64 0 2 = 2 := by decide
    have e3 : bits .or .i64 0 4 = 4 := by decide
    have e4 : bits .or .i64 0 8 = 8 := by decide
    have e5 : bits .or .i64 1 4 = 5 := by decide
    have e6 : bits .or .i64 1 8 = 9 := by decide
    have e7 : bits .or .i64 2 4 = 6 := by decide
    have e8 : bits .or .i64 2 8 = 10 := by decide
    try simp only [e1, e2, e3, e4, e5, e6, e7, e8]
    (repeat' split) <;> omega
end Go.Proofs.Ytafanlbfbfbeoaa
