/- How far a way goes. -/
import Derived.Test.YtafanlbfbfbeoaaWay
namespace Go.Proofs.Ytafanlbfbfbeoaa
open Go.RowKit

theorem move_bd (p : Int × Int) (m C : Int) (h0 : 0 ≤ m) (h1 : m ≤ 255) (hp : (-C ≤ p.1 ∧ p.1 ≤ C) ∧ (-C ≤ p.2 ∧ p.2 ≤ C)) :
    (-(C + 31) ≤ (moveS p m).1 ∧ (moveS p m).1 ≤ C + 31) ∧ (-(C + 31) ≤ (moveS p m).2 ∧ (moveS p m).2 ≤ C + 31) := by
  have hbd := dirs_bd m
  have hx := mul_bd (q := m / 8) (t := dxL.getD (m % 8).toNat 0) (by omega) (by omega) hbd.1.1 hbd.1.2
  have hy := mul_bd (q := m / 8) (t := dyL.getD (m % 8).toNat 0) (by omega) (by omega) hbd.2.1 hbd.2.2
  unfold moveS
  simp only
  omega

theorem wayL_bd (ms : List Int) : ∀ (p : Int × Int) (C : Int), (∀ m ∈ ms, 0 ≤ m ∧ m ≤ 255) → (-C ≤ p.1 ∧ p.1 ≤ C) ∧ (-C ≤ p.2 ∧ p.2 ≤ C) →
    ∀ q ∈ wayL p ms, (-(C + 31 * ms.length) ≤ q.1 ∧ q.1 ≤ C + 31 * ms.length) ∧ (-(C + 31 * ms.length) ≤ q.2 ∧ q.2 ≤ C + 31 * ms.length) := by
  induction ms with
  | nil =>
    intro p C _ hp q hq
    simp [wayL] at hq
    subst hq
    simpa using hp
  | cons m ms ih =>
    intro p C hm hp q hq
    have hm0 := hm m (by simp)
    simp only [wayL, List.mem_cons] at hq
    rcases hq with rfl | hq
    · simp only [List.length_cons]; omega
    · have := ih (moveS p m) (C + 31) (fun x hx => hm x (by simp [hx])) (move_bd p m C hm0.1 hm0.2 hp) q hq
      simp only [List.length_cons]; omega

/-- The moves of a way. -/
def movesL (len : Nat) (zs : List Int) : List Int := zs.take (min len 64)

theorem movesL_bd {w : World} {ao : Option Addr} {len cap : Nat} {zs : List Int} (hr : IsRow .u8 w ao len cap zs) : ∀ m ∈ movesL len zs, 0 ≤ m ∧ m ≤ 255 := by
  intro m hm
  have hm' : m ∈ zs := List.mem_of_mem_take hm
  rcases hr with ⟨_, _, _, rfl⟩ | ⟨x, _, _, _, _, _, h5⟩
  · simp at hm'
  · exact bounds_u8 (h5 m hm')

theorem movesL_length (len : Nat) (zs : List Int) : (movesL len zs).length ≤ 64 := by
  unfold movesL; rw [List.length_take]; omega

/-- A point of a way is not far off. -/
def Near (p : Int × Int) : Prop := (-3000 ≤ p.1 ∧ p.1 ≤ 3000) ∧ (-3000 ≤ p.2 ∧ p.2 ≤ 3000)

theorem Near.sm {p : Int × Int} (h : Near p) : Sm p.1 ∧ Sm p.2 := ⟨⟨by have := h.1.1; omega, by have := h.1.2; omega⟩, ⟨by have := h.2.1; omega, by have := h.2.2; omega⟩⟩

theorem way_near {w : World} {ao : Option Addr} {len cap : Nat} {zs : List Int} (hr : IsRow .u8 w ao len cap zs) {x y : Int} (hx : -128 ≤ x) (hx' : x ≤ 127) (hy : -128 ≤ y) (hy' : y ≤ 127) :
    ∀ p ∈ wayL (x, y) (movesL len zs), Near p := by
  intro p hp
  have h := wayL_bd (movesL len zs) (x, y) 128 (movesL_bd hr) ⟨⟨by simp; omega, by simp; omega⟩, ⟨by simp; omega, by simp; omega⟩⟩ p hp
  have hl := movesL_length len zs
  unfold Near
  omega

theorem way_walk (x y : Int) (ao : Option Addr) (len cap : Nat) (zs : List Int) (hx : -128 ≤ x) (hx' : x ≤ 127) (hy : -128 ≤ y) (hy' : y ≤ 127) (w : World) (hr : IsRow .u8 w ao len cap zs) :
    Calls Try.prog 9 #[.int .i8 x, .int .i8 y, .slice ao len cap] w
      fun e w' => ∃ ao' cap' ps, e = .returned (.slice ao' ps.length cap') ∧ ps = wayL (x, y) (movesL len zs) ∧ 0 < ps.length ∧ ps.length ≤ 65 ∧ (∀ p ∈ ps, Near p) ∧
        w'.ownsRow w.heap.size 25 2 (.slice ao' ps.length cap') ps.length (ps.flatMap spotE) ∧ Below w.heap.size w w' := by
  refine (way_any x y ao len cap zs hx hx' hy hy' w hr).mono ?_
  rintro e w' ⟨ao', cap', rfl, hown, hbel⟩
  have hl := wayL_length (x, y) (movesL len zs)
  have hm := movesL_length len zs
  refine ⟨ao', cap', wayL (x, y) (movesL len zs), by rw [hl]; rfl, rfl, by omega, by omega, way_near hr hx hx' hy hy', by rw [hl]; exact hown, hbel⟩

theorem IsRow.below {k : IntKind} {w w' : World} {ao : Option Addr} {len cap : Nat} {zs : List Int} (hr : IsRow k w ao len cap zs) (hb : Below w.heap.size w w') : IsRow k w' ao len cap zs := by
  rcases hr with h | ⟨x, h0, h1, h2, h3, h4, h5⟩
  · exact .inl h
  · exact .inr ⟨x, h0, h1, h2, h3, fun i hi => (hb.cell (World.block_lt_of_cell? _ _ (h4 i hi))).trans (h4 i hi), h5⟩

/-- The box of four numbers is not far off, and at least one wide and high. -/
theorem BoxOk.near {a b c d lx ly hx hy : Int} (h : BoxOk a b c d lx ly hx hy) (ha : -128 ≤ a) (ha' : a ≤ 127) (hb : -128 ≤ b) (hb' : b ≤ 127) (hc : -128 ≤ c) (hc' : c ≤ 127) (hd : -128 ≤ d) (hd' : d ≤ 127) :
    (-128 ≤ lx ∧ lx < hx ∧ hx ≤ 128) ∧ (-128 ≤ ly ∧ ly < hy ∧ hy ≤ 128) := by
  unfold BoxOk at h
  omega
end Go.Proofs.Ytafanlbfbfbeoaa
