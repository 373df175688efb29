/- Floats that are halves of whole numbers. -/
import Derived.Test.YtafanlbfbfbeoaaFw
namespace Go.Proofs.Ytafanlbfbfbeoaa
open Ieee

/-- The bits of the float that is half the whole number n. -/
def H (n : Int) : Nat := Fs 1 n

theorem rep_down {d : Datum} {n : Int} (h : Rep 1 d (2 * n)) : Rep 0 d n := by
  obtain ⟨g, m, i, rfl, hi, hv⟩ := h
  refine ⟨g, m, i, rfl, by omega, fun b hb => ?_⟩
  rw [hv b hb, show (-((0 : Nat) : Int) - b).toNat = (-((1 : Nat) : Int) - b).toNat + 1 by omega, Int.pow_succ]
  rw [Int.mul_comm 2 n, Int.mul_assoc, Int.mul_comm 2]

theorem sm_abs {n : Int} (h : -4000000 ≤ n ∧ n ≤ 4000000) : n.natAbs < 2 ^ 53 := by
  have : n.natAbs ≤ 4000000 := by omega
  exact Nat.lt_of_le_of_lt this (by decide)

theorem read_H {n : Int} (h : -4000000 ≤ n ∧ n ≤ 4000000) : RepP 1 (Ieee.double.read (H n)) n := read_rep 1 n (by omega) (sm_abs h)

theorem F_H {n : Int} (h : -2000000 ≤ n ∧ n ≤ 2000000) : F n = H (2 * n) := by
  have h1 := read_H (n := 2 * n) (by omega)
  have h2 : RepP 0 (Ieee.double.read (H (2 * n))) n := ⟨rep_down h1.1, fun e => h1.2 (by omega)⟩
  have e1 := write_rep (by omega) h1 (sm_abs (by omega))
  have e2 := write_rep (by omega) h2 (sm_abs (by omega))
  rw [e1] at e2
  exact e2.symm

theorem mul2_H {n : Int} (h : Sm n) : FloatKind.f64.format.mul (F 2) (H n) = some (F n) := by
  unfold Sm at h
  by_cases h0 : n = 0
  · subst h0; decide +kernel
  obtain ⟨r, hr, hp⟩ := rep_product (read_F (n := 2) (by decide)).1 (read_H (n := n) (by omega)).1
  have hp2 : Rep 0 r n := rep_down hp
  show ((Ieee.double.read (F 2)).product (Ieee.double.read (H n))).map Ieee.double.write = _
  rw [hr, Option.map_some, write_rep (by omega) ⟨hp2, fun e => absurd e h0⟩ (sm_abs (by omega))]
  rfl

theorem half_F {n : Int} (h : Sm n) : FloatKind.f64.format.div (F n) (F 2) = some (H n) := by
  unfold Sm at h
  by_cases h0 : n = 0
  · subst h0; decide +kernel
  have h1 := (read_H (n := 2 * n) (by omega)).1
  rw [← F_H (by omega), Int.mul_comm] at h1
  obtain ⟨r, hr, hp⟩ := rep_quotient (s := 1) (s' := 0) (q := n) (b := 2) h1 (read_F (n := 2) (by decide)).1 (by decide) (sm_abs (by omega)) (by decide)
  show ((Ieee.double.read (F n)).quotient 54 (Ieee.double.read (F 2))).map Ieee.double.write = _
  rw [hr, Option.map_some, write_rep (by omega) ⟨hp, fun e => absurd e h0⟩ (sm_abs (by omega))]
  rfl

theorem F_two : (4611686018427387904 : Nat) = F 2 := by decide +kernel

section
variable {P : Program} (w : World)
@[go_sem] theorem run_mul2_H (t : TypeId) (n : Int) (h : Sm n) : (binOp .mul t (.float .f64 4611686018427387904) (.float .f64 (H n))).run P w = .ok (.float .f64 (F n)) w := by
  rw [F_two]; exact run_float_arith w .mul t .f64 _ _ _ (mul2_H h)
@[go_sem] theorem run_half_F (t : TypeId) (n : Int) (h : Sm n) : (binOp .quo t (.float .f64 (F n)) (.float .f64 4611686018427387904)).run P w = .ok (.float .f64 (H n)) w := by
  rw [F_two]; exact run_float_arith w .quo t .f64 _ _ _ (half_F h)
end

/-- A point by the halves of its coordinates. -/
def hE (p : Int × Int) : List Value := [.float .f64 (H p.1), .float .f64 (H p.2)]
def dblP (p : Int × Int) : Int × Int := (2 * p.1, 2 * p.2)
end Go.Proofs.Ytafanlbfbfbeoaa
