
import Derived.Test.YtafanlbfbfbeoaaHas
namespace Go.Proofs.Ytafanlbfbfbeoaa
open Go.RowKit

/-- The box of four numbers. -/
def BoxOk (a b c d lx ly hx hy : Int) : Prop := lx = min a c ∧ ly = min b d ∧ hx = max (max a c) (lx + 1) ∧ hy = max (max b d) (ly + 1)

set_option maxRecDepth 100000 in
set_option maxHeartbeats 400000 in
theorem box_any (a b c d : Int) (ha : -128 ≤ a) (ha' : a ≤ 127) (hb : -128 ≤ b) (hb' : b ≤ 127) (hc : -128 ≤ c) (hc' : c ≤ 127) (hd : -128 ≤ d) (hd' : d ≤ 127) (w : World) :
    Calls Try.prog 7 #[.int .i8 a, .int .i8 b, .int .i8 c, .int .i8 d] w
      fun e w' => ∃ lx ly hx hy, e = .returned (.agg #[.int .i64 lx, .int .i64 ly, .int .i64 hx, .int .i64 hy]) ∧ BoxOk a b c d lx ly hx hy ∧ Below w.heap.size w w' := by
  go_enter Try.func7, Try.ntmps7
  go_wp2
  all_goals
    refine bodyPost_ret (v := .agg #[.int .i64 _, .int .i64 _, .int .i64 _, .int .i64 _]) (by simp [results, Try.results7, go_sem]; exact ⟨rfl, rfl, rfl, rfl⟩) rfl ⟨_, _, _, _, rfl, ?_, ((Below.refl _ _).alloc (Nat.le_refl _) _).alloc (by simp) _⟩
    unfold BoxOk
    omega
end Go.Proofs.Ytafanlbfbfbeoaa
