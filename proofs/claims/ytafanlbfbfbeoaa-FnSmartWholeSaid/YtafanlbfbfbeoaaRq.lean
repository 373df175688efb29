/- A ring, clipped, is a ring. -/
import Derived.Test.YtafanlbfbfbeoaaRp
namespace Go.Proofs.Ytafanlbfbfbeoaa

theorem sides_facts {lx ly hx hy : Int} {ps : List (Int × Int)} (hn : ∀ p ∈ ps, Near p) (ho : OctiR ps) : (∀ p ∈ sidesL lx ly hx hy ps, Near p) ∧ OctiR (sidesL lx ly hx hy ps) := by
  obtain ⟨o1, n1, _⟩ := pass_facts (lx := lx) (ly := ly) (hx := hx) (hy := hy) (.inl rfl : Side 1) ps hn ho
  obtain ⟨o2, n2, _⟩ := pass_facts (lx := lx) (ly := ly) (hx := hx) (hy := hy) (.inr (.inl rfl) : Side 2) _ n1 o1
  obtain ⟨o3, n3, _⟩ := pass_facts (lx := lx) (ly := ly) (hx := hx) (hy := hy) (.inr (.inr (.inl rfl)) : Side 4) _ n2 o2
  obtain ⟨o4, n4, _⟩ := pass_facts (lx := lx) (ly := ly) (hx := hx) (hy := hy) (.inr (.inr (.inr rfl)) : Side 8) _ n3 o3
  exact ⟨n4, o4⟩

theorem close_facts {ps : List (Int × Int)} (hn : ∀ p ∈ ps, Near p) (ho : OctiR ps) : (∀ p ∈ closeL ps, Near p) ∧ OctiR (closeL ps) ∧ (closeL ps).head? = (closeL ps).getLast? := by
  unfold closeL
  split
  · rename_i h; exact ⟨hn, ho, h⟩
  · cases ps with
    | nil => exact ⟨hn, ho, rfl⟩
    | cons f t =>
      refine ⟨?_, ?_, ?_⟩
      · intro p hp
        rcases List.mem_append.1 hp with h | h
        · exact hn p h
        · simp at h; subst h; exact hn p (by simp)
      · unfold OctiR at ho ⊢
        rw [lastOr_append]
        show OctiL f (f :: t ++ [f])
        rw [octiL_append]
        refine ⟨⟨octi_self f, ho.2⟩, ?_, trivial⟩
        have h1 := ho.1
        rw [lastOr_ne (0, 0) f (by simp)] at h1
        exact h1
      · show some f = ((f :: t) ++ [f]).getLast?
        rw [List.getLast?_append]; rfl

theorem ring_facts {lx ly hx hy : Int} {ps : List (Int × Int)} (hn : ∀ p ∈ ps, Near p) (ho : OctiR ps) : (∀ p ∈ ringL lx ly hx hy ps, Near p) ∧ OctiR (ringL lx ly hx hy ps) ∧ (ringL lx ly hx hy ps).head? = (ringL lx ly hx hy ps).getLast? :=
  have h := sides_facts (lx := lx) (ly := ly) (hx := hx) (hy := hy) hn ho
  close_facts h.1 h.2
end Go.Proofs.Ytafanlbfbfbeoaa
