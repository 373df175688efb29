/- What the proofs over smartclip lean on, part 29 of 48. -/
import Derived.Test.YtafanlbfbfbeoaaM26
import Derived.Test.YtafanlbfbfbeoaaM27

/- Around the box, either way. -/
namespace Go.Proofs.Ytafanlbfbfbeoaa
open Go.RowKit

theorem aroundBound_any (o : Int) (ho : o = 1 ∨ o = -1) (lx ly hx hy x1 y1 x2 y2 : Int) (s1 s2 : Nat) (hlx : Sm lx) (hly : Sm ly) (hhx : Sm hx) (hhy : Sm hy) (hsx : Sm (hx + lx)) (hsy : Sm (hy + ly)) (h1 : Sm x1) (h2 : Sm y1) (h3 : Sm x2) (h4 : Sm y2)
    (hs1 : 1 ≤ s1 ∧ s1 ≤ 4) (hs2 : 1 ≤ s2 ∧ s2 ≤ 4) (hc1 : codeS lx ly hx hy x1 y1 = midC s1) (hc2 : codeS lx ly hx hy x2 y2 = midC s2) (hd1 : sideI lx ly hx hy x1 y1 = s1) (hd2 : sideI lx ly hx hy x2 y2 = s2)
    (hne : EPt.pos ⟨x1, y1, true, s1, 0⟩ ≠ EPt.pos ⟨x2, y2, false, s2, 0⟩) (ao : Option Addr) (cap B : Nat) (w : World) (hB : B ≤ w.heap.size) (hin : w.ownsRow B 69 2 (.slice ao 2 cap) 2 ([(x1, y1), (x2, y2)].flatMap ptE)) :
    Calls Try.prog 54 #[.agg #[.float .f64 (F lx), .float .f64 (F ly), .float .f64 (F hx), .float .f64 (F hy)], .slice ao 2 cap, .int .i8 o] w
      fun e w' => ∃ ao' cap', Hid (∃ ps : List (Int × Int), ps = (2 * x1, 2 * y1) :: (2 * x2, 2 * y2) :: aroundL o lx ly hx hy ⟨x1, y1, true, s1, 0⟩ ⟨x2, y2, false, s2, 0⟩ ++ [(2 * x1, 2 * y1)] ∧ e = .returned (.slice ao' ps.length cap') ∧ w'.ownsRow B 69 2 (.slice ao' ps.length cap') ps.length (ps.flatMap hE)) ∧ Below B w w' := by
  rcases ho with rfl | rfl
  · exact aroundBound_ccw lx ly hx hy x1 y1 x2 y2 s1 s2 hlx hly hhx hhy hsx hsy h1 h2 h3 h4 hs1 hs2 hc1 hc2 hd1 hd2 hne ao cap B w hB hin
  · exact aroundBound_cw lx ly hx hy x1 y1 x2 y2 s1 s2 hlx hly hhx hhy hsx hsy h1 h2 h3 h4 hs1 hs2 hc1 hc2 hd1 hd2 hne ao cap B w hB hin
end Go.Proofs.Ytafanlbfbfbeoaa
