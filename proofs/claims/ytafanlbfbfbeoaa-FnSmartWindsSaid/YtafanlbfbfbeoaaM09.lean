/- What the proofs over smartclip lean on, part 10 of 48. -/
import Derived.Test.YtafanlbfbfbeoaaM08

/- Less of two endpoints on one side. -/
namespace Go.Proofs.Ytafanlbfbfbeoaa
open Go.RowKit

set_option maxRecDepth 100000 in
set_option maxHeartbeats 4000000 in
theorem less_side1 (W : World) (sb pb n cap g1 g2 i j : Nat) (_mx1 : Value) (x1 y1 x2 y2 : Int) (st1 st2 : Bool) (ix1 ix2 : Nat) (hi : i < n) (hj : j < n) (_hn : n ≤ 255) (_hx1 : Sm x1) (hy1 : Sm y1) (_hx2 : Sm x2) (hy2 : Sm y2) (hne : y1 ≠ y2)
    (c1 : W.cell? ⟨sb, 1, none⟩ = some (.slice (some ⟨pb, 0, none⟩) n cap)) (r1 : W.cell? ⟨pb, i, none⟩ = some (.pointer (some ⟨g1, 0, none⟩))) (r2 : W.cell? ⟨pb, j, none⟩ = some (.pointer (some ⟨g2, 0, none⟩)))
    (_p0 : W.cell? ⟨g1, 0, none⟩ = some (.float .f64 (F x1))) (p1 : W.cell? ⟨g1, 1, none⟩ = some (.float .f64 (F y1))) (p4 : W.cell? ⟨g1, 4, none⟩ = some (.int .u8 1))
    (_q0 : W.cell? ⟨g2, 0, none⟩ = some (.float .f64 (F x2))) (q1 : W.cell? ⟨g2, 1, none⟩ = some (.float .f64 (F y2))) (q4 : W.cell? ⟨g2, 4, none⟩ = some (.int .u8 1)) :
    Calls Try.prog 110 #[.pointer (some ⟨sb, 0, none⟩), .int .i64 i, .int .i64 j] W fun e w' => e = .returned (.bool (decide (EPt.pos ⟨x1, y1, st1, 1, ix1⟩ < EPt.pos ⟨x2, y2, st2, 1, ix2⟩))) ∧ Below W.heap.size W w' := by
  have hiz : (i : Int) < (n : Int) := by omega
  have hjz : (j : Int) < (n : Int) := by omega
  have hyy : (!decide (y1 = y2)) = true := by simpa using hne
  have hr : decide (y2 < y1) = decide (EPt.pos ⟨x1, y1, st1, 1, ix1⟩ < EPt.pos ⟨x2, y2, st2, 1, ix2⟩) := by
    exact decide_eq_decide.2 (pos_lt1 _ _ _ _ _ _ _ _).symm
  rw [← hr]
  clear hr
  go_enter Try.func110, Try.ntmps110
  go_wp2
  go_region
  all_goals go_wp2
  all_goals go_region
  all_goals go_wp2
  all_goals go_region
  all_goals go_wp2
  all_goals go_ret
  all_goals exact ⟨ret_bool rfl, (((Below.refl _ _).drew).drew).drew⟩

end Go.Proofs.Ytafanlbfbfbeoaa
