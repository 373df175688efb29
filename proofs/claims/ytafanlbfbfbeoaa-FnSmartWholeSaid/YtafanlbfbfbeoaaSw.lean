/- Whether a box is small. -/
import Derived.Test.YtafanlbfbfbeoaaIn
namespace Go.Proofs.Ytafanlbfbfbeoaa
open Go.RowKit

set_option maxRecDepth 100000 in
set_option maxHeartbeats 400000 in
theorem small_any (lx ly hx hy : Int) (h1 : -128 ≤ lx ∧ lx < hx ∧ hx ≤ 128) (h2 : -128 ≤ ly ∧ ly < hy ∧ hy ≤ 128) (w : World) :
    Calls Try.prog 18 #[.agg #[.int .i64 lx, .int .i64 ly, .int .i64 hx, .int .i64 hy]] w
      fun e w' => e = .returned (.bool (decide (hx - lx ≤ 40) && decide (hy - ly ≤ 40))) ∧ Below w.heap.size w w' := by
  go_enter Try.func18, Try.ntmps18
  go_wp2
  all_goals
    go_ret
    refine ⟨ret_bool ?_, (Below.refl _ _).alloc (Nat.le_refl _) _⟩
    simp
    try omega
end Go.Proofs.Ytafanlbfbfbeoaa
