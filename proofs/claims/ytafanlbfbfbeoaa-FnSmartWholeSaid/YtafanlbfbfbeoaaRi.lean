/- A ring, clipped, as the thin package gives it. -/
import Derived.Test.YtafanlbfbfbeoaaRg
import Derived.Test.YtafanlbfbfbeoaaOf
import Derived.Test.YtafanlbfbfbeoaaPlr
namespace Go.Proofs.Ytafanlbfbfbeoaa
open Go.RowKit

theorem close_len (l : List (Int × Int)) : (closeL l).length ≤ l.length + 1 := by
  unfold closeL
  split
  · omega
  · cases l <;> simp

theorem ring_len (lx ly hx hy : Int) (ps : List (Int × Int)) : (ringL lx ly hx hy ps).length ≤ 16 * ps.length + 1 := by
  have h0 := close_len (sidesL lx ly hx hy ps)
  have h1 : (passL lx ly hx hy 1 ps).length ≤ _ := clip_len _ _ _ _
  have h2 : (passL lx ly hx hy 2 (passL lx ly hx hy 1 ps)).length ≤ _ := clip_len _ _ _ _
  have h3 : (passL lx ly hx hy 4 (passL lx ly hx hy 2 (passL lx ly hx hy 1 ps))).length ≤ _ := clip_len _ _ _ _
  have h4 : (sidesL lx ly hx hy ps).length ≤ _ := clip_len _ _ _ _
  unfold ringL
  omega

/-- What a ring is to be. -/
structure RingOk (ps : List (Int × Int)) : Prop where
  len : ps.length ≤ 2000
  near : ∀ p ∈ ps, Near p
  octi : OctiR ps
  closed : ps.head? = ps.getLast?

end Go.Proofs.Ytafanlbfbfbeoaa
