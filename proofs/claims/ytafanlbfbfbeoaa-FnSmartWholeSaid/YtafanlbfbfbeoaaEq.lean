/- Two points of the package compared. -/
import Derived.Test.YtafanlbfbfbeoaaWayB
import Derived.Test.YtafanlbfbfbeoaaHas
import Derived.ChangeKeysEq
namespace Go.Proofs.Ytafanlbfbfbeoaa

@[go_sem] theorem run_equalIn_pt (w : World) (a b c e : Nat) : (Op.equalIn 10000 69 (.agg #[.float .f64 a, .float .f64 b]) (.agg #[.float .f64 c, .float .f64 e])).run Try.prog w = .ok ((FloatKind.f64.format.order a c == some .eq) && (FloatKind.f64.format.order b e == some .eq)) w := by
  obtain ⟨i, hi⟩ := Option.isSome_iff_exists.1 (show (Try.prog.info? 37).isSome = true by kernel_rfl)
  rw [run_equalIn_array (w := w) 9999 _ _ Try.underlying69 hi]
  have hc : Try.prog.cellsOf 37 = 1 := by kernel_rfl
  rw [hc]
  have hr : List.range 2 = [0, 1] := rfl
  rw [hr]
  have hpart : ∀ (xs : Array Value) (off : Nat) (v : Value) (w : World), xs[off]? = some v → (part 37 xs off).run Try.prog w = .ok v w := by
    intro xs off v w hx
    simp [part, isAgg, go_sem, run_underlying Try.underlying37, hx]
  have heq : ∀ (x y : Nat) (w : World), (Op.equalIn 9999 37 (.float .f64 x) (.float .f64 y)).run Try.prog w = .ok (FloatKind.f64.format.order x y == some .eq) w := fun x y w => run_equalIn_float w 9998 _ _ _ _ Try.underlying37
  simp only [Op.eqItems, Sem.run_bind]
  rw [hpart _ (0 * 1) (.float .f64 a) w rfl]
  simp only [Result.andThen_ok]
  rw [hpart _ (0 * 1) (.float .f64 c) w rfl]
  simp only [Result.andThen_ok, heq]
  cases (FloatKind.f64.format.order a c == some .eq)
  · simp
  · simp only [Bool.not_true, Bool.false_eq_true, if_false, Sem.run_bind]
    rw [hpart _ (1 * 1) (.float .f64 b) w rfl]
    simp only [Result.andThen_ok]
    rw [hpart _ (1 * 1) (.float .f64 e) w rfl]
    simp only [Result.andThen_ok, heq]
    cases (FloatKind.f64.format.order b e == some .eq) <;> simp
end Go.Proofs.Ytafanlbfbfbeoaa
