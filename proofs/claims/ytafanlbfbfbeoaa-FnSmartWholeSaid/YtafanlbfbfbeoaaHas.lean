
import Derived.Test.YtafanlbfbfbeoaaDa
namespace Go.Proofs.Ytafanlbfbfbeoaa
open Go.RowKit

theorem ret_bool {a b : Bool} (h : a = b) : Ending.returned (.bool a) = Ending.returned (.bool b) := by rw [h]
theorem ret_int {k : IntKind} {a b : Int} (h : a = b) : Ending.returned (.int k a) = Ending.returned (.int k b) := by rw [h]

def hasB (lx ly hx hy x y : Int) : Bool := decide (lx ≤ x) && decide (x ≤ hx) && decide (ly ≤ y) && decide (y ≤ hy)

theorem hasB_iff {lx ly hx hy x y : Int} : hasB lx ly hx hy x y = true ↔ lx ≤ x ∧ x ≤ hx ∧ ly ≤ y ∧ y ≤ hy := by
  simp [hasB, and_assoc]

set_option maxRecDepth 100000 in
set_option maxHeartbeats 400000 in
theorem has_any (lx ly hx hy x y : Int) (w : World) :
    Calls Try.prog 12 #[.agg #[.int .i64 lx, .int .i64 ly, .int .i64 hx, .int .i64 hy], .agg #[.int .i64 x, .int .i64 y]] w
      fun e w' => e = .returned (.bool (hasB lx ly hx hy x y)) ∧ Below w.heap.size w w' := by
  go_enter Try.func12, Try.ntmps12
  go_wp2
  all_goals
    go_ret
    refine ⟨ret_bool ?_, ((Below.refl _ _).alloc (Nat.le_refl _) _).alloc (by simp) _⟩
    unfold hasB
    simp
    try omega
end Go.Proofs.Ytafanlbfbfbeoaa
