/- The point at which a line crosses a side of the box. -/
import Derived.Test.YtafanlbfbfbeoaaIs
import Derived.Test.YtafanlbfbfbeoaaDa
import Derived.BigRegion
import Derived.Deep.DeepCutAuto
namespace Go.Proofs.Ytafanlbfbfbeoaa
open Go.RowKit Ieee

/-- The facts of the arithmetic: `x + a * b / c = r`. -/
def Arith (x a b c r : Int) : Prop := ∃ m d, FloatKind.f64.format.mul (F a) (F b) = some m ∧ FloatKind.f64.format.div m (F c) = some d ∧ FloatKind.f64.format.add (F x) d = some (F r)

set_option maxRecDepth 100000 in
set_option maxHeartbeats 1000000 in
theorem isect_top (e lx ly hx hy ax ay bx by' r : Int) (h1 : Sm hy) (h2 : Sm ax) (h3 : Sm ay) (h4 : Sm bx) (h5 : Sm by') (e8 : Hid (bits .and .i64 e 8 = 8)) (ha : Arith ax (bx - ax) (hy - ay) (by' - ay) r) (w : World) :
    Calls Try.prog 67 #[.agg #[.float .f64 (F lx), .float .f64 (F ly), .float .f64 (F hx), .float .f64 (F hy)], .int .i64 e, .agg #[.float .f64 (F ax), .float .f64 (F ay)], .agg #[.float .f64 (F bx), .float .f64 (F by')]] w
      fun e w' => e = .returned (.agg #[.float .f64 (F r), .float .f64 (F hy)]) ∧ Below w.heap.size w w' := by
  obtain ⟨m, d, hm, hd, hr⟩ := ha
  have fm : ∀ t w, (binOp .mul t (.float .f64 (F (bx - ax))) (.float .f64 (F (hy - ay)))).run Try.prog w = .ok (.float .f64 m) w := fun t w => run_float_arith w .mul t .f64 _ _ _ hm
  have fd : ∀ t w, (binOp .quo t (.float .f64 m) (.float .f64 (F (by' - ay)))).run Try.prog w = .ok (.float .f64 d) w := fun t w => run_float_arith w .quo t .f64 _ _ _ hd
  have fa : ∀ t w, (binOp .add t (.float .f64 (F ax)) (.float .f64 d)).run Try.prog w = .ok (.float .f64 (F r)) w := fun t w => run_float_arith w .add t .f64 _ _ _ hr
  clear hm hd hr
  go_enter Try.func67, Try.ntmps67
  have e8 := e8.out
  go_wp2_with (first | simp only [e8] | fail)
  all_goals
    refine bodyPost_ret (v := .agg #[.float .f64 (F r), .float .f64 (F hy)]) (by simp [results, Try.results67, go_sem]) rfl ⟨rfl, ?_⟩
    exact (((((Below.refl w.heap.size w).alloc (Nat.le_refl _) _).alloc (by simp) _).alloc (by simp; omega) _).alloc (by simp; omega) _)

set_option maxRecDepth 100000 in
set_option maxHeartbeats 1000000 in
theorem isect_bottom (e lx ly hx hy ax ay bx by' r : Int) (h1 : Sm ly) (h2 : Sm ax) (h3 : Sm ay) (h4 : Sm bx) (h5 : Sm by') (e8 : Hid (bits .and .i64 e 8 = 0)) (e4 : Hid (bits .and .i64 e 4 = 4)) (ha : Arith ax (bx - ax) (ly - ay) (by' - ay) r) (w : World) :
    Calls Try.prog 67 #[.agg #[.float .f64 (F lx), .float .f64 (F ly), .float .f64 (F hx), .float .f64 (F hy)], .int .i64 e, .agg #[.float .f64 (F ax), .float .f64 (F ay)], .agg #[.float .f64 (F bx), .float .f64 (F by')]] w
      fun e w' => e = .returned (.agg #[.float .f64 (F r), .float .f64 (F ly)]) ∧ Below w.heap.size w w' := by
  obtain ⟨m, d, hm, hd, hr⟩ := ha
  have fm : ∀ t w, (binOp .mul t (.float .f64 (F (bx - ax))) (.float .f64 (F (ly - ay)))).run Try.prog w = .ok (.float .f64 m) w := fun t w => run_float_arith w .mul t .f64 _ _ _ hm
  have fd : ∀ t w, (binOp .quo t (.float .f64 m) (.float .f64 (F (by' - ay)))).run Try.prog w = .ok (.float .f64 d) w := fun t w => run_float_arith w .quo t .f64 _ _ _ hd
  have fa : ∀ t w, (binOp .add t (.float .f64 (F ax)) (.float .f64 d)).run Try.prog w = .ok (.float .f64 (F r)) w := fun t w => run_float_arith w .add t .f64 _ _ _ hr
  clear hm hd hr
  go_enter Try.func67, Try.ntmps67
  have e8 := e8.out
  have e4 := e4.out
  go_wp2_with (first | simp only [e8, e4] | fail)
  all_goals
    refine bodyPost_ret (v := .agg #[.float .f64 (F r), .float .f64 (F ly)]) (by simp [results, Try.results67, go_sem]) rfl ⟨rfl, ?_⟩
    exact (((((Below.refl w.heap.size w).alloc (Nat.le_refl _) _).alloc (by simp) _).alloc (by simp; omega) _).alloc (by simp; omega) _)

set_option maxRecDepth 100000 in
set_option maxHeartbeats 1000000 in
theorem isect_right (e lx ly hx hy ax ay bx by' r : Int) (h1 : Sm hx) (h2 : Sm ax) (h3 : Sm ay) (h4 : Sm bx) (h5 : Sm by') (e8 : Hid (bits .and .i64 e 8 = 0)) (e4 : Hid (bits .and .i64 e 4 = 0)) (e2 : Hid (bits .and .i64 e 2 = 2)) (ha : Arith ay (by' - ay) (hx - ax) (bx - ax) r) (w : World) :
    Calls Try.prog 67 #[.agg #[.float .f64 (F lx), .float .f64 (F ly), .float .f64 (F hx), .float .f64 (F hy)], .int .i64 e, .agg #[.float .f64 (F ax), .float .f64 (F ay)], .agg #[.float .f64 (F bx), .float .f64 (F by')]] w
      fun e w' => e = .returned (.agg #[.float .f64 (F hx), .float .f64 (F r)]) ∧ Below w.heap.size w w' := by
  obtain ⟨m, d, hm, hd, hr⟩ := ha
  have fm : ∀ t w, (binOp .mul t (.float .f64 (F (by' - ay))) (.float .f64 (F (hx - ax)))).run Try.prog w = .ok (.float .f64 m) w := fun t w => run_float_arith w .mul t .f64 _ _ _ hm
  have fd : ∀ t w, (binOp .quo t (.float .f64 m) (.float .f64 (F (bx - ax)))).run Try.prog w = .ok (.float .f64 d) w := fun t w => run_float_arith w .quo t .f64 _ _ _ hd
  have fa : ∀ t w, (binOp .add t (.float .f64 (F ay)) (.float .f64 d)).run Try.prog w = .ok (.float .f64 (F r)) w := fun t w => run_float_arith w .add t .f64 _ _ _ hr
  clear hm hd hr
  go_enter Try.func67, Try.ntmps67
  have e8 := e8.out
  have e4 := e4.out
  have e2 := e2.out
  go_wp2_with (first | simp only [e8, e4, e2] | fail)
  all_goals
    refine bodyPost_ret (v := .agg #[.float .f64 (F hx), .float .f64 (F r)]) (by simp [results, Try.results67, go_sem]) rfl ⟨rfl, ?_⟩
    exact (((((Below.refl w.heap.size w).alloc (Nat.le_refl _) _).alloc (by simp) _).alloc (by simp; omega) _).alloc (by simp; omega) _)

set_option maxRecDepth 100000 in
set_option maxHeartbeats 1000000 in
theorem isect_left (e lx ly hx hy ax ay bx by' r : Int) (h1 : Sm lx) (h2 : Sm ax) (h3 : Sm ay) (h4 : Sm bx) (h5 : Sm by') (e8 : Hid (bits .and .i64 e 8 = 0)) (e4 : Hid (bits .and .i64 e 4 = 0)) (e2 : Hid (bits .and .i64 e 2 = 0)) (e1 : Hid (bits .and .i64 e 1 = 1)) (ha : Arith ay (by' - ay) (lx - ax) (bx - ax) r) (w : World) :
    Calls Try.prog 67 #[.agg #[.float .f64 (F lx), .float .f64 (F ly), .float .f64 (F hx), .float .f64 (F hy)], .int .i64 e, .agg #[.float .f64 (F ax), .float .f64 (F ay)], .agg #[.float .f64 (F bx), .float .f64 (F by')]] w
      fun e w' => e = .returned (.agg #[.float .f64 (F lx), .float .f64 (F r)]) ∧ Below w.heap.size w w' := by
  obtain ⟨m, d, hm, hd, hr⟩ := ha
  have fm : ∀ t w, (binOp .mul t (.float .f64 (F (by' - ay))) (.float .f64 (F (lx - ax)))).run Try.prog w = .ok (.float .f64 m) w := fun t w => run_float_arith w .mul t .f64 _ _ _ hm
  have fd : ∀ t w, (binOp .quo t (.float .f64 m) (.float .f64 (F (bx - ax)))).run Try.prog w = .ok (.float .f64 d) w := fun t w => run_float_arith w .quo t .f64 _ _ _ hd
  have fa : ∀ t w, (binOp .add t (.float .f64 (F ay)) (.float .f64 d)).run Try.prog w = .ok (.float .f64 (F r)) w := fun t w => run_float_arith w .add t .f64 _ _ _ hr
  clear hm hd hr
  go_enter Try.func67, Try.ntmps67
  have e8 := e8.out
  have e4 := e4.out
  have e2 := e2.out
  have e1 := e1.out
  go_wp2_with (first | simp only [e8, e4, e2, e1] | fail)
  all_goals
    refine bodyPost_ret (v := .agg #[.float .f64 (F lx), .float .f64 (F r)]) (by simp [results, Try.results67, go_sem]) rfl ⟨rfl, ?_⟩
    exact (((((Below.refl w.heap.size w).alloc (Nat.le_refl _) _).alloc (by simp) _).alloc (by simp; omega) _).alloc (by simp; omega) _)

end Go.Proofs.Ytafanlbfbfbeoaa
