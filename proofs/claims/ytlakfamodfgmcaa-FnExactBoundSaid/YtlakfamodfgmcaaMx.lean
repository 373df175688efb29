/- math.Max, math.Min and the box that two boxes have in common. -/
import Derived.Test.YtlakfamodfgmcaaOf
import Derived.Laws.Externs
import Derived.Deep.QuietTactic
import Derived.BigQuiet
import Derived.StillTailTactics
namespace Go.Proofs.Ytlakfamodfgmcaa
open Go.RowKit Ieee

theorem rep_form {s : Nat} {d : Datum} {n : Int} (h : Rep s d n) : ∃ g m i, d = .number g m i ∧ (m = 0 ↔ n = 0) := by
  obtain ⟨g, m, i, rfl, hi, hv⟩ := h
  have va := rep_val (s := s) (n := n) ⟨g, m, i, rfl, hi, hv⟩
  obtain ⟨_, sz, _⟩ := sign_of_mul va.2
  refine ⟨g, m, i, rfl, ?_⟩
  cases g <;> simp at sz <;> omega

theorem pick_eq (name : String) (neg : Bool) (win : Ordering) (x y : Nat) : Extern.MathDim.pick name neg win #[.float .f64 x, .float .f64 y] =
    pure (.float .f64 (if FloatKind.f64.decode x == .infinity neg || FloatKind.f64.decode y == .infinity neg then FloatKind.f64.encode (.infinity neg)
      else if (FloatKind.f64.decode x).isNaN || (FloatKind.f64.decode y).isNaN then 0x7FF8000000000001
      else if (FloatKind.f64.decode x).isZero && (FloatKind.f64.decode y).isZero then (if (FloatKind.f64.decode x).neg == neg then x else y)
      else if (FloatKind.f64.decode x).order (FloatKind.f64.decode y) == some win then x else y)) := rfl

theorem pick_run {P : Program} (name : String) (neg : Bool) (win : Ordering) (hw : win = .lt ∨ win = .gt) (a b : Int) (ha : Sm a) (hb : Sm b) (w : World) :
    (Extern.MathDim.pick name neg win #[.float .f64 (F a), .float .f64 (F b)]).run P w = .ok (.float .f64 (F (if compare a b = win then a else b))) w := by
  have ra := read_F ha.abs
  have rb := read_F hb.abs
  have ho := rep_order ra.1 rb.1
  obtain ⟨g, m, i, ea, za⟩ := rep_form ra.1
  obtain ⟨g', m', i', eb, zb⟩ := rep_form rb.1
  have hda : FloatKind.f64.decode (F a) = .number g m i := ea
  have hdb : FloatKind.f64.decode (F b) = .number g' m' i' := eb
  rw [ea, eb] at ho
  rw [pick_eq, hda, hdb, ho]
  have e1 : ((Datum.number g m i == Datum.infinity neg) || (Datum.number g' m' i' == Datum.infinity neg)) = false := by
    have h1 : (Datum.number g m i == Datum.infinity neg) = false := by simp
    have h2 : (Datum.number g' m' i' == Datum.infinity neg) = false := by simp
    rw [h1, h2]; rfl
  have e2 : ((Datum.number g m i).isNaN || (Datum.number g' m' i').isNaN) = false := rfl
  simp only [e1, e2, Bool.false_eq_true, if_false]
  by_cases hz : m = 0 ∧ m' = 0
  · have a0 := za.1 hz.1
    have b0 := zb.1 hz.2
    subst a0; subst b0
    simp
  · have e3 : ((Datum.number g m i).isZero && (Datum.number g' m' i').isZero) = false := by
      unfold Datum.isZero
      by_cases hm : m = 0
      · have hm' : m' ≠ 0 := fun h => hz ⟨hm, h⟩
        cases m' with
        | zero => exact absurd rfl hm'
        | succ k => simp
      · cases m with
        | zero => exact absurd rfl hm
        | succ k => simp
    simp only [e3, Bool.false_eq_true, if_false]
    have e4 : ((some (compare a b)) == some win) = decide (compare a b = win) := by
      rcases hw with rfl | rfl <;> cases compare a b <;> rfl
    rw [e4]
    by_cases hc : compare a b = win <;> simp [hc]

theorem max_if (a b : Int) : (if compare a b = .gt then a else b) = max a b := by
  by_cases h : compare a b = .gt
  · rw [if_pos h]; have := Int.compare_eq_gt.1 h; omega
  · rw [if_neg h]; have : ¬ b < a := fun h' => h (Int.compare_eq_gt.2 h'); omega

theorem min_if (a b : Int) : (if compare a b = .lt then a else b) = min a b := by
  by_cases h : compare a b = .lt
  · rw [if_pos h]; have := Int.compare_eq_lt.1 h; omega
  · rw [if_neg h]; have : ¬ a < b := fun h' => h (Int.compare_eq_lt.2 h'); omega

theorem run_archMax (args : Array Value) (w : World) : (callFunc 60 args).run Try.prog w = ((Extern.MathDim.pick "math.archMax" false .gt args).run Try.prog w).andThen fun v w' => .ok (.value v) w' :=
  run_callFunc_extern Try.func60 (by kernel_rfl) (by kernel_rfl) (by kernel_rfl) (by kernel_rfl) args w

theorem run_archMin (args : Array Value) (w : World) : (callFunc 62 args).run Try.prog w = ((Extern.MathDim.pick "math.archMin" true .lt args).run Try.prog w).andThen fun v w' => .ok (.value v) w' :=
  run_callFunc_extern Try.func62 (by kernel_rfl) (by kernel_rfl) (by kernel_rfl) (by kernel_rfl) args w

set_option maxRecDepth 100000 in
set_option maxHeartbeats 1000000 in
theorem max_any (a b : Int) (ha : Sm a) (hb : Sm b) (w : World) :
    Calls Try.prog 54 #[.float .f64 (F a), .float .f64 (F b)] w fun e w' => e = .returned (.float .f64 (F (max a b))) ∧ w' = w := by
  have h1 := run_archMax #[.float .f64 (F a), .float .f64 (F b)] w
  rw [pick_run _ _ _ (.inr rfl) a b ha hb, max_if] at h1
  go_enter Try.func54, Try.ntmps54
  go_wp2
  go_ret
  exact ⟨rfl, rfl⟩

set_option maxRecDepth 100000 in
set_option maxHeartbeats 1000000 in
theorem min_any (a b : Int) (ha : Sm a) (hb : Sm b) (w : World) :
    Calls Try.prog 55 #[.float .f64 (F a), .float .f64 (F b)] w fun e w' => e = .returned (.float .f64 (F (min a b))) ∧ w' = w := by
  have h1 := run_archMin #[.float .f64 (F a), .float .f64 (F b)] w
  rw [pick_run _ _ _ (.inl rfl) a b ha hb, min_if] at h1
  go_enter Try.func55, Try.ntmps55
  go_wp2
  go_ret
  exact ⟨rfl, rfl⟩

set_option maxRecDepth 100000 in
set_option maxHeartbeats 1000000 in
theorem isEmpty_any (lx ly hx hy : Int) (h1 : Sm lx) (h2 : Sm ly) (h3 : Sm hx) (h4 : Sm hy) (hle : lx ≤ hx) (hle' : ly ≤ hy) (w : World) :
    Calls Try.prog 53 #[.agg #[.float .f64 (F lx), .float .f64 (F ly), .float .f64 (F hx), .float .f64 (F hy)]] w fun e w' => e = .returned (.bool false) ∧ Below w.heap.size w w' := by
  go_enter Try.func53, Try.ntmps53
  go_wp2
  go_ret
  refine ⟨ret_bool (by simp; omega), (Below.refl _ _).alloc (Nat.le_refl _) _⟩

set_option maxRecDepth 100000 in
set_option maxHeartbeats 2000000 in
theorem clipBound_any (lx ly hx hy kx ky mx my : Int) (h1 : Sm lx) (h2 : Sm ly) (h3 : Sm hx) (h4 : Sm hy) (h5 : Sm kx) (h6 : Sm ky) (h7 : Sm mx) (h8 : Sm my) (hle : lx ≤ hx) (hle' : ly ≤ hy) (hke : kx ≤ mx) (hke' : ky ≤ my) (w : World) :
    Calls Try.prog 39 #[.agg #[.float .f64 (F lx), .float .f64 (F ly), .float .f64 (F hx), .float .f64 (F hy)], .agg #[.float .f64 (F kx), .float .f64 (F ky), .float .f64 (F mx), .float .f64 (F my)]] w
      fun e w' => e = .returned (.agg #[.float .f64 (F (max lx kx)), .float .f64 (F (max ly ky)), .float .f64 (F (min hx mx)), .float .f64 (F (min hy my))]) ∧ Below w.heap.size w w' := by
  go_enter Try.func39, Try.ntmps39
  go_wp2_with fail
  refine (isEmpty_any lx ly hx hy h1 h2 h3 h4 hle hle' _).mono ?_
  rintro e w1 ⟨rfl, hb1⟩
  have b2 := ((Blk.new w #[.float .f64 (F lx), .float .f64 (F ly), .float .f64 (F hx), .float .f64 (F hy)] 73).alloc (.cells #[.float .f64 (F kx), .float .f64 (F ky), .float .f64 (F mx), .float .f64 (F my)] 73)).alloc (.cells #[.float .f64 0, .float .f64 0, .float .f64 0, .float .f64 0] 73)
  have b3 := (Blk.new (w.alloc (.cells #[.float .f64 (F lx), .float .f64 (F ly), .float .f64 (F hx), .float .f64 (F hy)] 73)) #[.float .f64 (F kx), .float .f64 (F ky), .float .f64 (F mx), .float .f64 (F my)] 73).alloc (.cells #[.float .f64 0, .float .f64 0, .float .f64 0, .float .f64 0] 73)
  have b4 := Blk.new ((w.alloc (.cells #[.float .f64 (F lx), .float .f64 (F ly), .float .f64 (F hx), .float .f64 (F hy)] 73)).alloc (.cells #[.float .f64 (F kx), .float .f64 (F ky), .float .f64 (F mx), .float .f64 (F my)] 73)) #[.float .f64 0, .float .f64 0, .float .f64 0, .float .f64 0] 73
  simp only [World.size_alloc] at b2 b3 b4
  have b2 := b2.below hb1 (by simp <;> omega)
  have b3 := b3.below hb1 (by simp <;> omega)
  have b4 := b4.below hb1 (by simp <;> omega)
  have hB1 : Below w.heap.size w w1 := Below.trans (((((Below.refl _ _).alloc (Nat.le_refl _) _).alloc (by simp) _).alloc (by simp; omega) _)) (hb1.mono (by simp; omega))
  clear hb1
  have c0 : w1.cell? ⟨w.heap.size, 0, none⟩ = some (.float .f64 (F lx)) := b2.cell 0
  have c1 : w1.cell? ⟨w.heap.size, 1, none⟩ = some (.float .f64 (F ly)) := b2.cell 1
  have c2 : w1.cell? ⟨w.heap.size, 2, none⟩ = some (.float .f64 (F hx)) := b2.cell 2
  have c3 : w1.cell? ⟨w.heap.size, 3, none⟩ = some (.float .f64 (F hy)) := b2.cell 3
  go_wp2_with fail
  refine (isEmpty_any lx ly hx hy h1 h2 h3 h4 hle hle' _).mono ?_
  rintro e w2 ⟨rfl, hb2⟩
  have b2 := b2.below hb2 b2.lt
  have b3 := b3.below hb2 b3.lt
  have b4 := b4.below hb2 b4.lt
  have hB2 := hB1.trans (hb2.mono hB1.size)
  clear hb2 hB1 c0 c1 c2 c3
  have d0 : w2.cell? ⟨w.heap.size + 1, 0, none⟩ = some (.float .f64 (F kx)) := b3.cell 0
  have d1 : w2.cell? ⟨w.heap.size + 1, 1, none⟩ = some (.float .f64 (F ky)) := b3.cell 1
  have d2 : w2.cell? ⟨w.heap.size + 1, 2, none⟩ = some (.float .f64 (F mx)) := b3.cell 2
  have d3 : w2.cell? ⟨w.heap.size + 1, 3, none⟩ = some (.float .f64 (F my)) := b3.cell 3
  go_wp2_with fail
  refine (isEmpty_any kx ky mx my h5 h6 h7 h8 hke hke' _).mono ?_
  rintro e w3 ⟨rfl, hb3⟩
  have b2 := b2.below hb3 b2.lt
  have b3 := b3.below hb3 b3.lt
  have b4 := b4.below hb3 b4.lt
  have hB3 := hB2.trans (hb3.mono hB2.size)
  clear hb3 hB2 d0 d1 d2 d3
  have c0 : w3.cell? ⟨w.heap.size, 0, none⟩ = some (.float .f64 (F lx)) := b2.cell 0
  have c1 : w3.cell? ⟨w.heap.size, 1, none⟩ = some (.float .f64 (F ly)) := b2.cell 1
  have c2 : w3.cell? ⟨w.heap.size, 2, none⟩ = some (.float .f64 (F hx)) := b2.cell 2
  have c3 : w3.cell? ⟨w.heap.size, 3, none⟩ = some (.float .f64 (F hy)) := b2.cell 3
  have d0 : w3.cell? ⟨w.heap.size + 1, 0, none⟩ = some (.float .f64 (F kx)) := b3.cell 0
  have d1 : w3.cell? ⟨w.heap.size + 1, 1, none⟩ = some (.float .f64 (F ky)) := b3.cell 1
  have d2 : w3.cell? ⟨w.heap.size + 1, 2, none⟩ = some (.float .f64 (F mx)) := b3.cell 2
  have d3 : w3.cell? ⟨w.heap.size + 1, 3, none⟩ = some (.float .f64 (F my)) := b3.cell 3
  have e0 : w3.cell? ⟨w.heap.size + 2, 0, none⟩ = some (.float .f64 0) := b4.cell 0
  have e1 : w3.cell? ⟨w.heap.size + 2, 1, none⟩ = some (.float .f64 0) := b4.cell 1
  have e2 : w3.cell? ⟨w.heap.size + 2, 2, none⟩ = some (.float .f64 0) := b4.cell 2
  have e3 : w3.cell? ⟨w.heap.size + 2, 3, none⟩ = some (.float .f64 0) := b4.cell 3
  have f0 : w3.frozen? ⟨w.heap.size + 2, 0, none⟩ = false := b4.frozen 0
  have f1 : w3.frozen? ⟨w.heap.size + 2, 1, none⟩ = false := b4.frozen 1
  have f2 : w3.frozen? ⟨w.heap.size + 2, 2, none⟩ = false := b4.frozen 2
  have f3 : w3.frozen? ⟨w.heap.size + 2, 3, none⟩ = false := b4.frozen 3
  clear b2 b3 b4
  go_wp2_with fail
  go_still_tail 31, (by kernel_rfl)
  still_call (max_any lx kx h1 h5 _)
  repeat still_step
  still_call (max_any ly ky h2 h6 _)
  repeat still_step
  still_call (min_any hx mx h3 h7 _)
  repeat still_step
  still_call (min_any hy my h4 h8 _)
  repeat still_step
  refine wpStill_nil ?_
  change wpList _ _ _ _ _ w3.drew
  go_wp2
  refine bodyPost_ret (v := .agg #[.float .f64 (F (max lx kx)), .float .f64 (F (max ly ky)), .float .f64 (F (min hx mx)), .float .f64 (F (min hy my))]) (by simp [results, Try.results39, go_sem, e0, e1, e2, e3]) rfl ⟨rfl, ?_⟩
  exact ((((hB3.setCell (by simp <;> omega) _).setCell (by simp <;> omega) _).setCell (by simp <;> omega) _).setCell (by simp <;> omega) _).drew
end Go.Proofs.Ytlakfamodfgmcaa
