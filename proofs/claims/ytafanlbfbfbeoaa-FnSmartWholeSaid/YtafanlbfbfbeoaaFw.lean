/- What a walk meets of floats that are whole numbers: conversions, comparisons, differences. -/
import Derived.Test.YtafanlbfbfbeoaaFl
import Derived.Test.YtafanlbfbfbeoaaProg
import Derived.WalkKit
import Derived.WalkSpells
import Derived.WalkLawsBesides
namespace Go.Proofs.Ytafanlbfbfbeoaa
open Ieee

/-- The bits of the float that is the whole number n. -/
def F (n : Int) : Nat := Fs 0 n

/-- A number that is small enough for all that is done to it here. -/
def Sm (n : Int) : Prop := -1000000 ≤ n ∧ n ≤ 1000000

theorem Sm.abs {n : Int} (h : Sm n) : n.natAbs < 2 ^ 53 := by
  have : n.natAbs ≤ 1000000 := by have := h.1; have := h.2; omega
  exact Nat.lt_of_le_of_lt this (by decide)

@[go_sem] theorem floatOfInt_F (n : Int) : floatOfInt .f64 n = F n := by
  unfold floatOfInt F Fs FloatKind.nearest FloatKind.encode Format.write
  rfl

theorem read_F {n : Int} (h : n.natAbs < 2 ^ 53) : RepP 0 (Ieee.double.read (F n)) n := read_rep 0 n (by omega) h

theorem order_F {a b : Int} (ha : Sm a) (hb : Sm b) : FloatKind.f64.format.order (F a) (F b) = some (compare a b) :=
  rep_order (read_F ha.abs).1 (read_F hb.abs).1

@[go_sem] theorem order_F_eq {a b : Int} (ha : Sm a) (hb : Sm b) : (FloatKind.f64.format.order (F a) (F b) == some .eq) = decide (a = b) := by
  rw [order_F ha hb]
  rcases Int.lt_trichotomy a b with h | h | h
  · rw [Int.compare_eq_lt.2 h]; have : a ≠ b := by omega
    simp [this]
  · subst h; rw [Int.compare_eq_eq.2 rfl]; simp
  · rw [Int.compare_eq_gt.2 h]; have : a ≠ b := by omega
    simp [this]

@[go_sem] theorem order_F_ne {a b : Int} (ha : Sm a) (hb : Sm b) : (FloatKind.f64.format.order (F a) (F b) != some .eq) = !decide (a = b) := by
  rw [← order_F_eq ha hb]; rfl

@[go_sem] theorem order_F_lt {a b : Int} (ha : Sm a) (hb : Sm b) : (FloatKind.f64.format.order (F a) (F b) == some .lt) = decide (a < b) := by
  rw [order_F ha hb]
  rcases Int.lt_trichotomy a b with h | h | h
  · rw [Int.compare_eq_lt.2 h]; simp [h]
  · subst h; rw [Int.compare_eq_eq.2 rfl]; simp
  · rw [Int.compare_eq_gt.2 h]; have : ¬ a < b := by omega
    simp [this]

@[go_sem] theorem order_F_gt {a b : Int} (ha : Sm a) (hb : Sm b) : (FloatKind.f64.format.order (F a) (F b) == some .gt) = decide (b < a) := by
  rw [order_F ha hb]
  rcases Int.lt_trichotomy a b with h | h | h
  · rw [Int.compare_eq_lt.2 h]; have : ¬ b < a := by omega
    simp [this]
  · subst h; rw [Int.compare_eq_eq.2 rfl]; simp
  · rw [Int.compare_eq_gt.2 h]; simp [h]

theorem floatToIntVal_F {n : Int} (h : Sm n) : floatToIntVal .f64 (F n) .i64 = some n := by
  have hr := rep_toInt (read_F h.abs).1
  have h1 := h.1; have h2 := h.2
  have e1 : IntKind.min .i64 = -9223372036854775808 := by decide
  have e2 : IntKind.max .i64 = 9223372036854775807 := by decide
  unfold floatToIntVal FloatKind.decode
  show (match (Ieee.double.read (F n)).toInt .zero with | some n => _ | none => _) = _
  rw [hr, e1, e2]
  simp only
  rw [if_pos (by omega)]

theorem sub_F {a b : Int} (ha : Sm a) (hb : Sm b) : FloatKind.f64.format.sub (F a) (F b) = some (F (a - b)) := by
  obtain ⟨r, hr, hp⟩ := rep_sum (read_F ha.abs) (rep_opposite (read_F hb.abs).1)
  show ((Ieee.double.read (F a)).sum (Ieee.double.read (F b)).opposite).map Ieee.double.write = _
  rw [hr]
  have h1 := ha.1; have h2 := ha.2; have h3 := hb.1; have h4 := hb.2
  have : (a + -b).natAbs ≤ 2000000 := by omega
  have hw := write_rep (by omega) hp (Nat.lt_of_le_of_lt this (by decide))
  simp only [Option.map_some, hw]
  rfl

theorem add_F {a b : Int} (ha : Sm a) (hb : Sm b) : FloatKind.f64.format.add (F a) (F b) = some (F (a + b)) := by
  obtain ⟨r, hr, hp⟩ := rep_sum (read_F ha.abs) (read_F hb.abs).1
  show ((Ieee.double.read (F a)).sum (Ieee.double.read (F b))).map Ieee.double.write = _
  rw [hr]
  have h1 := ha.1; have h2 := ha.2; have h3 := hb.1; have h4 := hb.2
  have : (a + b).natAbs ≤ 2000000 := by omega
  have hw := write_rep (by omega) hp (Nat.lt_of_le_of_lt this (by decide))
  simp only [Option.map_some, hw]
  rfl

section
variable {P : Program} (w : World)
@[go_sem] theorem run_convert_F_int (src dst : TypeId) (n : Int) (hs : (P.underlying src).isSome = true) (hd : P.underlying dst = some (.int .i64)) (h : Sm n) :
    (convert src dst (.float .f64 (F n))).run P w = .ok (.int .i64 n) w :=
  run_convert_float_int w src dst .f64 .i64 (F n) n hs hd (floatToIntVal_F h)

@[go_sem] theorem run_sub_F (t : TypeId) (a b : Int) (ha : Sm a) (hb : Sm b) : (binOp .sub t (.float .f64 (F a)) (.float .f64 (F b))).run P w = .ok (.float .f64 (F (a - b))) w :=
  run_float_arith w .sub t .f64 _ _ _ (sub_F ha hb)

@[go_sem] theorem run_add_F (t : TypeId) (a b : Int) (ha : Sm a) (hb : Sm b) : (binOp .add t (.float .f64 (F a)) (.float .f64 (F b))).run P w = .ok (.float .f64 (F (a + b))) w :=
  run_float_arith w .add t .f64 _ _ _ (add_F ha hb)
end

@[go_sem] theorem run_store_float {P : Program} (w : World) (a : Addr) (m : Mode) (k : FloatKind) (n : Nat) : (store a (.float k n) m).run P w = stored P w a (.float k n) m := run_store P w a _ m rfl

@[go_sem] theorem run_equalIn_float {P : Program} (w : World) (d : Nat) (t : TypeId) (k : FloatKind) (a b : Nat) (h : P.underlying t = some (.float k)) :
    (Op.equalIn (d + 1) t (.float k a) (.float k b)).run P w = .ok (k.format.order a b == some .eq) w := by
  simp [Op.equalIn, run_underlying h, Op.floatEq]

theorem F_big : (4681608360884174848 : Nat) = F 100000 := by decide +kernel
theorem F_low : (13904980397738950656 : Nat) = F (-100000) := by decide +kernel
end Go.Proofs.Ytafanlbfbfbeoaa
