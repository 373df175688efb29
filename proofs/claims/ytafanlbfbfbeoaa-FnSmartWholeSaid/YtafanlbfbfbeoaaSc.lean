/- Small functions of smartclip. -/
import Derived.Test.YtafanlbfbfbeoaaLo
import Derived.Test.YtafanlbfbfbeoaaEq
import Derived.Test.YtafanlbfbfbeoaaPy
import Derived.Deep.QuietTactic
import Derived.BigQuiet
namespace Go.Proofs.Ytafanlbfbfbeoaa
open Go.RowKit

/-- The side of a box on which a point lies. -/
def sideI (lx ly hx hy x y : Int) : Int := if y = hy then 4 else if y = ly then 2 else if x = hx then 3 else if x = lx then 1 else 255

set_option maxRecDepth 100000 in
set_option maxHeartbeats 1000000 in
theorem pointSide_any (lx ly hx hy x y : Int) (h1 : Sm lx) (h2 : Sm ly) (h3 : Sm hx) (h4 : Sm hy) (h5 : Sm x) (h6 : Sm y) (w : World) :
    Calls Try.prog 50 #[.agg #[.float .f64 (F lx), .float .f64 (F ly), .float .f64 (F hx), .float .f64 (F hy)], .agg #[.float .f64 (F x), .float .f64 (F y)]] w
      fun e w' => e = .returned (.int .u8 (sideI lx ly hx hy x y)) ∧ Below w.heap.size w w' := by
  go_enter Try.func50, Try.ntmps50
  go_wp2
  all_goals
    go_ret
    refine ⟨ret_int ?_, ((Below.refl _ _).alloc (Nat.le_refl _) _).alloc (by simp) _⟩
    unfold sideI
    (repeat' split) <;> omega

set_option maxRecDepth 100000 in
set_option maxHeartbeats 1000000 in
/-- A ring of four points or more that ends where it began. -/
theorem ringClosed_any (ao : Option Addr) (cap : Nat) (ps : List (Int × Int)) (B : Nat) (w : World) (h4 : 4 ≤ ps.length) (hl : ps.length ≤ 100000000) (h0 : Sm ps[0].1 ∧ Sm ps[0].2) (he : ps[ps.length - 1] = ps[0]) (h : w.ownsRow B 69 2 (.slice ao ps.length cap) ps.length (ps.flatMap ptE)) :
    Calls Try.prog 47 #[.slice ao ps.length cap] w fun e w' => e = .returned (.bool true) ∧ ∃ q, w' = w.drewN q := by
  obtain ⟨g, hg, hc⟩ := pts_read h
  obtain ⟨rfl, hgs, _⟩ := hg (by omega)
  obtain ⟨c0, c1⟩ := hc 0 (by omega)
  obtain ⟨c2, c3⟩ := hc (ps.length - 1) (by omega)
  rw [he] at c2 c3
  have hd : decide ((4 : Int) ≤ (ps.length : Int)) = true := decide_eq_true (by omega)
  have hi : (4 : Int) ≤ (ps.length : Int) := by omega
  have ht : ((ps.length : Int) - 1).toNat = ps.length - 1 := by omega
  clear h hg hc he
  go_enter Try.func47, Try.ntmps47
  go_wp2_with fail
  go_quiet (fail)
  go_wp2_with fail
  go_ret
  exact ⟨rfl, _, rfl⟩
end Go.Proofs.Ytafanlbfbfbeoaa
