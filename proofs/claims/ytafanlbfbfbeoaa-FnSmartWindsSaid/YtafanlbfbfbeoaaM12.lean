/- What the proofs over smartclip lean on, part 13 of 48. -/
import Derived.Test.YtafanlbfbfbeoaaM08
import Derived.Test.YtafanlbfbfbeoaaM09
import Derived.Test.YtafanlbfbfbeoaaM10
import Derived.Test.YtafanlbfbfbeoaaM11

/- Less of two endpoints on one side. -/
namespace Go.Proofs.Ytafanlbfbfbeoaa
open Go.RowKit

set_option maxRecDepth 100000 in
set_option maxHeartbeats 4000000 in
theorem less_side4 (W : World) (sb pb n cap g1 g2 i j : Nat) (_mx1 : Value) (x1 y1 x2 y2 : Int) (st1 st2 : Bool) (ix1 ix2 : Nat) (hi : i < n) (hj : j < n) (_hn : n ≤ 255) (hx1 : Sm x1) (_hy1 : Sm y1) (hx2 : Sm x2) (_hy2 : Sm y2) (hne : x1 ≠ x2)
    (c1 : W.cell? ⟨sb, 1, none⟩ = some (.slice (some ⟨pb, 0, none⟩) n cap)) (r1 : W.cell? ⟨pb, i, none⟩ = some (.pointer (some ⟨g1, 0, none⟩))) (r2 : W.cell? ⟨pb, j, none⟩ = some (.pointer (some ⟨g2, 0, none⟩)))
    (p0 : W.cell? ⟨g1, 0, none⟩ = some (.float .f64 (F x1))) (_p1 : W.cell? ⟨g1, 1, none⟩ = some (.float .f64 (F y1))) (p4 : W.cell? ⟨g1, 4, none⟩ = some (.int .u8 4))
    (q0 : W.cell? ⟨g2, 0, none⟩ = some (.float .f64 (F x2))) (_q1 : W.cell? ⟨g2, 1, none⟩ = some (.float .f64 (F y2))) (q4 : W.cell? ⟨g2, 4, none⟩ = some (.int .u8 4)) :
    Calls Try.prog 110 #[.pointer (some ⟨sb, 0, none⟩), .int .i64 i, .int .i64 j] W fun e w' => e = .returned (.bool (decide (EPt.pos ⟨x1, y1, st1, 4, ix1⟩ < EPt.pos ⟨x2, y2, st2, 4, ix2⟩))) ∧ Below W.heap.size W w' := by
  have hiz : (i : Int) < (n : Int) := by omega
  have hjz : (j : Int) < (n : Int) := by omega
  have hyy : (!decide (x1 = x2)) = true := by simpa using hne
  have hr : decide (x2 < x1) = decide (EPt.pos ⟨x1, y1, st1, 4, ix1⟩ < EPt.pos ⟨x2, y2, st2, 4, ix2⟩) := by
    exact decide_eq_decide.2 (pos_lt4 _ _ _ _ _ _ _ _).symm
  rw [← hr]
  clear hr
  go_enter Try.func110, Try.ntmps110
  go_wp2
  go_region
  all_goals go_wp2
  all_goals go_region
  all_goals go_wp2
  all_goals go_region
  all_goals go_wp2
  all_goals go_ret
  all_goals exact ⟨ret_bool rfl, (((Below.refl _ _).drew).drew).drew⟩

end Go.Proofs.Ytafanlbfbfbeoaa

/- Len and Less of endpoints. -/
namespace Go.Proofs.Ytafanlbfbfbeoaa
open Go.RowKit
theorem pos_ne1 {x1 y1 x2 y2 : Int} {st1 st2 : Bool} {i1 i2 : Nat} (h : EPt.pos ⟨x1, y1, st1, 1, i1⟩ ≠ EPt.pos ⟨x2, y2, st2, 1, i2⟩) : y1 ≠ y2 := by
  intro e
  apply h
  unfold EPt.pos
  dsimp only
  rw [if_pos rfl, if_pos rfl, e]
theorem pos_ne2 {x1 y1 x2 y2 : Int} {st1 st2 : Bool} {i1 i2 : Nat} (h : EPt.pos ⟨x1, y1, st1, 2, i1⟩ ≠ EPt.pos ⟨x2, y2, st2, 2, i2⟩) : x1 ≠ x2 := by
  intro e
  apply h
  unfold EPt.pos
  dsimp only
  rw [if_neg (by decide), if_pos rfl, if_neg (by decide), if_pos rfl, e]
theorem pos_ne3 {x1 y1 x2 y2 : Int} {st1 st2 : Bool} {i1 i2 : Nat} (h : EPt.pos ⟨x1, y1, st1, 3, i1⟩ ≠ EPt.pos ⟨x2, y2, st2, 3, i2⟩) : y1 ≠ y2 := by
  intro e
  apply h
  unfold EPt.pos
  dsimp only
  rw [if_neg (by decide), if_neg (by decide), if_pos rfl, if_neg (by decide), if_neg (by decide), if_pos rfl, e]
theorem pos_ne4 {x1 y1 x2 y2 : Int} {st1 st2 : Bool} {i1 i2 : Nat} (h : EPt.pos ⟨x1, y1, st1, 4, i1⟩ ≠ EPt.pos ⟨x2, y2, st2, 4, i2⟩) : x1 ≠ x2 := by
  intro e
  apply h
  unfold EPt.pos
  dsimp only
  rw [if_neg (by decide), if_neg (by decide), if_neg (by decide), if_neg (by decide), if_neg (by decide), if_neg (by decide), e]

section
variable {n : Nat} {E : Nat → EPt} {eb : Nat → Nat} {sb pb : Nat} {te : TypeId} {mv : Value} {cap : Nat} {tl : Array Value} {Q : Array Nat → (Nat → Nat) → Prop} {d : Array Nat}

set_option maxRecDepth 100000 in
theorem epsLen_any (W : World) (h : EpsW n E eb sb pb te mv cap tl Q d W) :
    Calls Try.prog 109 #[.pointer (some ⟨sb, 0, none⟩)] W fun e w' => e = .returned (.int .i64 n) ∧ Below W.heap.size W w' := by
  have c1 : W.cell? ⟨sb, 1, none⟩ = some (.slice (some ⟨pb, 0, none⟩) n cap) := h.se.cell 1
  go_enter Try.func109, Try.ntmps109
  go_wp2
  go_ret
  exact ⟨rfl, Below.refl _ _⟩

theorem epsLess_any (W : World) (h : EpsW n E eb sb pb te mv cap tl Q d W) (i j : Nat) (hi : i < n) (hj : j < n) (hE : (E d[i]!).ok) (hE' : (E d[j]!).ok) (hne : (E d[i]!).pos ≠ (E d[j]!).pos) (hn : n ≤ 255) :
    Calls Try.prog 110 #[.pointer (some ⟨sb, 0, none⟩), .int .i64 i, .int .i64 j] W fun e w' => e = .returned (.bool (decide ((E d[i]!).pos < (E d[j]!).pos))) ∧ Below W.heap.size W w' := by
  have c1 : W.cell? ⟨sb, 1, none⟩ = some (.slice (some ⟨pb, 0, none⟩) n cap) := h.se.cell 1
  have r1 := row_at h.row i (by rw [h.size]; exact hi)
  have r2 := row_at h.row j (by rw [h.size]; exact hj)
  obtain ⟨oe, -, hb⟩ := h.eps
  have b1 := (hb _ (h.ids i hi)).2
  have b2 := (hb _ (h.ids j hj)).2
  revert hE hE' hne r1 r2 b1 b2
  generalize oe d[i]! = o1
  generalize oe d[j]! = o2
  generalize E d[i]! = E1
  generalize E d[j]! = E2
  generalize eb d[i]! = g1
  generalize eb d[j]! = g2
  intro hE hE' hne r1 r2 b1 b2
  obtain ⟨x1, y1, st1, s1, ix1⟩ := E1
  obtain ⟨x2, y2, st2, s2, ix2⟩ := E2
  obtain ⟨hx1, hy1, hs1, hs1'⟩ := hE
  obtain ⟨hx2, hy2, hs2, hs2'⟩ := hE'
  dsimp only at hx1 hy1 hs1 hs1' hx2 hy2 hs2 hs2'
  by_cases hss : s1 = s2
  · subst hss
    have hc : s1 = 1 ∨ s1 = 2 ∨ s1 = 3 ∨ s1 = 4 := by omega
    rcases hc with rfl | rfl | rfl | rfl
    · exact less_side1 W sb pb n cap g1 g2 i j mv x1 y1 x2 y2 st1 st2 ix1 ix2 hi hj hn hx1 hy1 hx2 hy2 (pos_ne1 hne) c1 r1 r2 (b1.cell 0) (b1.cell 1) (b1.cell 4) (b2.cell 0) (b2.cell 1) (b2.cell 4)
    · exact less_side2 W sb pb n cap g1 g2 i j mv x1 y1 x2 y2 st1 st2 ix1 ix2 hi hj hn hx1 hy1 hx2 hy2 (pos_ne2 hne) c1 r1 r2 (b1.cell 0) (b1.cell 1) (b1.cell 4) (b2.cell 0) (b2.cell 1) (b2.cell 4)
    · exact less_side3 W sb pb n cap g1 g2 i j mv x1 y1 x2 y2 st1 st2 ix1 ix2 hi hj hn hx1 hy1 hx2 hy2 (pos_ne3 hne) c1 r1 r2 (b1.cell 0) (b1.cell 1) (b1.cell 4) (b2.cell 0) (b2.cell 1) (b2.cell 4)
    · exact less_side4 W sb pb n cap g1 g2 i j mv x1 y1 x2 y2 st1 st2 ix1 ix2 hi hj hn hx1 hy1 hx2 hy2 (pos_ne4 hne) c1 r1 r2 (b1.cell 0) (b1.cell 1) (b1.cell 4) (b2.cell 0) (b2.cell 1) (b2.cell 4)
  · exact less_far W sb pb n cap g1 g2 i j mv x1 y1 x2 y2 st1 st2 ix1 ix2 s1 s2 hi hj hn hx1 hy1 hx2 hy2 hs1' hs2' hss c1 r1 r2 (b1.cell 0) (b1.cell 1) (b1.cell 4) (b2.cell 0) (b2.cell 1) (b2.cell 4)

end
end Go.Proofs.Ytafanlbfbfbeoaa
