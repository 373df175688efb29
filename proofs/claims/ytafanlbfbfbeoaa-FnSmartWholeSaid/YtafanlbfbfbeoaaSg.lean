/- A line along one of eight directions, clipped: which of its steps are left. -/
import Derived.Test.YtafanlbfbfbeoaaCl
namespace Go.Proofs.Ytafanlbfbfbeoaa

/-- Where a coordinate lies to the two sides: 0 between them, 1 before, 2 behind; the sides count as outside, if they are open. -/
def acode (o : Bool) (l h x : Int) : Int := if o = true then (if x ≤ l then 1 else if h ≤ x then 2 else 0) else (if x < l then 1 else if h < x then 2 else 0)

/-- The step at which a side is crossed. -/
def cross1 (l h p d c : Int) : Int := if c = 2 then (h - p) * d else (l - p) * d

theorem acode_cases (o : Bool) (l h x : Int) : acode o l h x = 0 ∨ acode o l h x = 1 ∨ acode o l h x = 2 := by
  unfold acode; (repeat' split) <;> simp

theorem axisA {l h p d s t : Int} {oA oB : Bool} (hlh : l < h) (hd : d = -1 ∨ d = 0 ∨ d = 1) (hst : s ≤ t) (ha : acode oA l h (p + s * d) ≠ 0) (hb : acode oB l h (p + t * d) ≠ acode oA l h (p + s * d)) (hf : oA = true → oB = true) :
    d ≠ 0 ∧ s ≤ cross1 l h p d (acode oA l h (p + s * d)) ∧ cross1 l h p d (acode oA l h (p + s * d)) ≤ t ∧ (oA = false → s < cross1 l h p d (acode oA l h (p + s * d))) ∧ (oB = true → cross1 l h p d (acode oA l h (p + s * d)) < t) ∧ s < t ∧
    p + cross1 l h p d (acode oA l h (p + s * d)) * d = (if acode oA l h (p + s * d) = 2 then h else l) ∧
    ∀ k, s ≤ k → k < cross1 l h p d (acode oA l h (p + s * d)) → ¬ (l ≤ p + k * d ∧ p + k * d ≤ h) := by
  unfold acode cross1 at *
  rcases hd with rfl | rfl | rfl <;> cases oA <;> cases oB <;> simp only [Int.mul_zero, Int.mul_one, Int.mul_neg_one, Bool.false_eq_true, if_false, if_true, ite_true, ite_false, reduceIte, false_implies, true_implies, reduceCtorEq, not_true] at * <;>
    (repeat' split at *) <;> (first | omega | (refine ⟨by omega, by omega, by omega, by first | omega | trivial, by first | omega | trivial, by omega, by omega, fun k h1 h2 => by omega⟩) | (simp at *; done) | skip)

theorem axisB {l h p d s t : Int} {oA oB : Bool} (hlh : l < h) (hd : d = -1 ∨ d = 0 ∨ d = 1) (hst : s ≤ t) (ha : acode oA l h (p + s * d) = 0) (hb : acode oB l h (p + t * d) ≠ 0) (hx : oA = false → oB = true → s < t ∧ (d = 0 → p ≠ l ∧ p ≠ h)) :
    d ≠ 0 ∧ s ≤ cross1 l h p d (acode oB l h (p + t * d)) ∧ cross1 l h p d (acode oB l h (p + t * d)) ≤ t ∧ s < t ∧ (oB = false → cross1 l h p d (acode oB l h (p + t * d)) < t) ∧
    p + cross1 l h p d (acode oB l h (p + t * d)) * d = (if acode oB l h (p + t * d) = 2 then h else l) ∧
    ∀ k, cross1 l h p d (acode oB l h (p + t * d)) < k → k ≤ t → ¬ (l ≤ p + k * d ∧ p + k * d ≤ h) := by
  unfold acode cross1 at *
  rcases hd with rfl | rfl | rfl <;> cases oA <;> cases oB <;> simp only [Int.mul_zero, Int.mul_one, Int.mul_neg_one, Bool.false_eq_true, if_false, if_true, ite_true, ite_false, reduceIte, false_implies, true_implies, reduceCtorEq, not_true] at * <;>
    (repeat' split at *) <;> (first | omega | (refine ⟨by omega, by omega, by omega, by first | omega | trivial, by first | omega | trivial, by omega, fun k h1 h2 => by omega⟩) | (simp at *; done) | skip)

/-- The point after so many steps. -/
def ptK (P d : Int × Int) (k : Int) : Int × Int := (P.1 + k * d.1, P.2 + k * d.2)

/-- A step lies on a side. -/
def alongB (lx ly hx hy : Int) (a b : Int × Int) : Bool := decide (a.1 = b.1) && (decide (a.1 = lx) || decide (a.1 = hx)) || decide (a.2 = b.2) && (decide (a.2 = ly) || decide (a.2 = hy))

/-- A step is left. -/
def keepB (o : Bool) (lx ly hx hy : Int) (a b : Int × Int) : Bool := hasB lx ly hx hy a.1 a.2 && hasB lx ly hx hy b.1 b.2 && !(o && alongB lx ly hx hy a b)

/-- The step at which a side is crossed: that of the second axis first. -/
def crossK (lx ly hx hy : Int) (P d : Int × Int) (cx cy : Int) : Int := if cy = 0 then cross1 lx hx P.1 d.1 cx else cross1 ly hy P.2 d.2 cy

/-- What the inner loop makes of a line. -/
def segL (lx ly hx hy : Int) (P d : Int × Int) : Nat → Bool → Bool → Int → Int → Option (Int × Int)
  | 0, _, _, _, _ => none
  | n + 1, oA, oB, s, t =>
    let ax := acode oA lx hx (ptK P d s).1
    let ay := acode oA ly hy (ptK P d s).2
    let bx := acode oB lx hx (ptK P d t).1
    let bY := acode oB ly hy (ptK P d t).2
    if (ax = 0 ∧ ay = 0) ∧ (bx = 0 ∧ bY = 0) then some (s, t)
    else if (ax = bx ∧ ax ≠ 0) ∨ (ay = bY ∧ ay ≠ 0) then none
    else if ¬ (ax = 0 ∧ ay = 0) then segL lx ly hx hy P d n false oB (crossK lx ly hx hy P d ax ay) t
    else segL lx ly hx hy P d n oA false s (crossK lx ly hx hy P d bx bY)

/-- One of eight directions. -/
def Dir (d : Int × Int) : Prop := (d.1 = -1 ∨ d.1 = 0 ∨ d.1 = 1) ∧ (d.2 = -1 ∨ d.2 = 0 ∨ d.2 = 1)

/-- The line runs along no side. -/
def Off (lx ly hx hy : Int) (P d : Int × Int) : Prop := (d.1 = 0 → P.1 ≠ lx ∧ P.1 ≠ hx) ∧ (d.2 = 0 → P.2 ≠ ly ∧ P.2 ≠ hy)

/-- What the inner loop keeps. -/
structure SInv (o : Bool) (lx ly hx hy : Int) (P d : Int × Int) (N : Int) (oA oB : Bool) (s t : Int) : Prop where
  lo : 0 ≤ s
  st : s ≤ t
  hi : t ≤ N
  flag : o = false → oA = false ∧ oB = false
  off : o = true → (oA = true ∧ oB = true) ∨ Off lx ly hx hy P d
  ord : oA = true → oB = false → acode oA lx hx (ptK P d s).1 = 0 ∧ acode oA ly hy (ptK P d s).2 = 0
  lt : oA = false → oB = true → s < t
  out : ∀ k, 0 ≤ k → k < N → (k < s ∨ t ≤ k) → keepB o lx ly hx hy (ptK P d k) (ptK P d (k + 1)) = false

theorem keep_out_l {o : Bool} {lx ly hx hy : Int} {a b : Int × Int} (h : ¬ (lx ≤ a.1 ∧ a.1 ≤ hx ∧ ly ≤ a.2 ∧ a.2 ≤ hy)) : keepB o lx ly hx hy a b = false := by
  have : hasB lx ly hx hy a.1 a.2 = false := by
    rw [← Bool.not_eq_true, hasB_iff]; exact h
  simp [keepB, this]

theorem keep_out_r {o : Bool} {lx ly hx hy : Int} {a b : Int × Int} (h : ¬ (lx ≤ b.1 ∧ b.1 ≤ hx ∧ ly ≤ b.2 ∧ b.2 ≤ hy)) : keepB o lx ly hx hy a b = false := by
  have : hasB lx ly hx hy b.1 b.2 = false := by
    rw [← Bool.not_eq_true, hasB_iff]; exact h
  simp [keepB, this]

section
variable {o : Bool} {lx ly hx hy : Int} {P d : Int × Int} {N : Int} {oA oB : Bool} {s t : Int}

/-- The side is met at that step. -/
def Hit (lx ly hx hy : Int) (P d : Int × Int) (cx cy u : Int) : Prop :=
  if cy = 0 then d.1 ≠ 0 ∧ P.1 + u * d.1 = (if cx = 2 then hx else lx) else d.2 ≠ 0 ∧ P.2 + u * d.2 = (if cy = 2 then hy else ly)

/-- What is known of a crossing of the first end. -/
theorem SInv.crossA (h : SInv o lx ly hx hy P d N oA oB s t) (hx' : lx < hx) (hy' : ly < hy) (hd : Dir d)
    (hno : ¬ ((acode oA lx hx (ptK P d s).1 = acode oB lx hx (ptK P d t).1 ∧ acode oA lx hx (ptK P d s).1 ≠ 0) ∨ (acode oA ly hy (ptK P d s).2 = acode oB ly hy (ptK P d t).2 ∧ acode oA ly hy (ptK P d s).2 ≠ 0)))
    (hA : ¬ (acode oA lx hx (ptK P d s).1 = 0 ∧ acode oA ly hy (ptK P d s).2 = 0)) :
    SInv o lx ly hx hy P d N false oB (crossK lx ly hx hy P d (acode oA lx hx (ptK P d s).1) (acode oA ly hy (ptK P d s).2)) t ∧
    s ≤ crossK lx ly hx hy P d (acode oA lx hx (ptK P d s).1) (acode oA ly hy (ptK P d s).2) ∧ (oA = false → s < crossK lx ly hx hy P d (acode oA lx hx (ptK P d s).1) (acode oA ly hy (ptK P d s).2)) ∧ s < t ∧ Hit lx ly hx hy P d (acode oA lx hx (ptK P d s).1) (acode oA ly hy (ptK P d s).2) (crossK lx ly hx hy P d (acode oA lx hx (ptK P d s).1) (acode oA ly hy (ptK P d s).2)) := by
  simp only [ptK] at hno hA ⊢
  have hf : oA = true → oB = true := fun h1 => by
    cases hB : oB with
    | true => rfl
    | false => exact absurd (h.ord h1 hB) hA
  have hoff : o = true → Off lx ly hx hy P d := fun ho => by
    rcases h.off ho with ⟨hA', hB'⟩ | hoff
    · subst hA'; subst hB'
      constructor
      · intro h0
        constructor <;> intro he <;> apply hno <;> left <;> simp [acode, h0, he] <;> omega
      · intro h0
        constructor <;> intro he <;> apply hno <;> right <;> simp [acode, h0, he] <;> omega
    · exact hoff
  have hcl : oB = true → o = true := fun hB => by
    cases ho : o with
    | true => rfl
    | false => have := (h.flag ho).2; rw [hB] at this; cases this
  unfold crossK Hit
  by_cases hy0 : acode oA ly hy (P.2 + s * d.2) = 0
  · rw [if_pos hy0, if_pos hy0]
    have hx0 : acode oA lx hx (P.1 + s * d.1) ≠ 0 := fun e => hA ⟨e, hy0⟩
    obtain ⟨v0, u1, u2, u3, u4, v1, v2, u6⟩ := axisA (oA := oA) (oB := oB) hx' hd.1 h.st hx0 (fun e => hno (.inl ⟨e.symm, hx0⟩)) hf
    refine ⟨⟨by have := h.lo; exact Int.le_trans this u1, u2, h.hi, fun ho => ⟨rfl, (h.flag ho).2⟩, fun ho => .inr (hoff ho), fun h1 => (by cases h1), fun _ hB => u4 hB, fun k k0 kN hk => ?_⟩, u1, u3, v1, v0, v2⟩
    by_cases hks : k < s ∨ t ≤ k
    · exact h.out k k0 kN hks
    · refine keep_out_l fun hin => u6 k (by omega) (by omega) ⟨hin.1, hin.2.1⟩
  · rw [if_neg hy0, if_neg hy0]
    obtain ⟨v0, u1, u2, u3, u4, v1, v2, u6⟩ := axisA (oA := oA) (oB := oB) hy' hd.2 h.st hy0 (fun e => hno (.inr ⟨e.symm, hy0⟩)) hf
    refine ⟨⟨by have := h.lo; exact Int.le_trans this u1, u2, h.hi, fun ho => ⟨rfl, (h.flag ho).2⟩, fun ho => .inr (hoff ho), fun h1 => (by cases h1), fun _ hB => u4 hB, fun k k0 kN hk => ?_⟩, u1, u3, v1, v0, v2⟩
    by_cases hks : k < s ∨ t ≤ k
    · exact h.out k k0 kN hks
    · refine keep_out_l fun hin => u6 k (by omega) (by omega) hin.2.2

/-- What is known of a crossing of the second end. -/
theorem SInv.crossB (h : SInv o lx ly hx hy P d N oA oB s t) (hx' : lx < hx) (hy' : ly < hy) (hd : Dir d)
    (hA : acode oA lx hx (ptK P d s).1 = 0 ∧ acode oA ly hy (ptK P d s).2 = 0) (hB : ¬ (acode oB lx hx (ptK P d t).1 = 0 ∧ acode oB ly hy (ptK P d t).2 = 0)) :
    SInv o lx ly hx hy P d N oA false s (crossK lx ly hx hy P d (acode oB lx hx (ptK P d t).1) (acode oB ly hy (ptK P d t).2)) ∧
    crossK lx ly hx hy P d (acode oB lx hx (ptK P d t).1) (acode oB ly hy (ptK P d t).2) ≤ t ∧ (oB = false → crossK lx ly hx hy P d (acode oB lx hx (ptK P d t).1) (acode oB ly hy (ptK P d t).2) < t) ∧ s < t ∧ Hit lx ly hx hy P d (acode oB lx hx (ptK P d t).1) (acode oB ly hy (ptK P d t).2) (crossK lx ly hx hy P d (acode oB lx hx (ptK P d t).1) (acode oB ly hy (ptK P d t).2)) := by
  simp only [ptK] at hA hB ⊢
  have hoff : o = true → Off lx ly hx hy P d := fun ho => by
    rcases h.off ho with ⟨hA', hB'⟩ | hoff
    · subst hA'
      obtain ⟨a1, a2⟩ := hA
      constructor
      · intro h0
        unfold acode at a1
        rw [h0] at a1
        (repeat' split at a1) <;> (first | omega | (simp at * <;> omega))
      · intro h0
        unfold acode at a2
        rw [h0] at a2
        (repeat' split at a2) <;> (first | omega | (simp at * <;> omega))
    · exact hoff
  have hcl : oB = true → o = true := fun hB => by
    cases ho : o with
    | true => rfl
    | false => have := (h.flag ho).2; rw [hB] at this; cases this
  unfold crossK Hit
  by_cases hy0 : acode oB ly hy (P.2 + t * d.2) = 0
  · rw [if_pos hy0, if_pos hy0]
    have hx0 : acode oB lx hx (P.1 + t * d.1) ≠ 0 := fun e => hB ⟨e, hy0⟩
    obtain ⟨v0, u1, u2, v1, u3, v2, u6⟩ := axisB (oA := oA) (oB := oB) hx' hd.1 h.st hA.1 hx0 (fun h1 h2 => ⟨h.lt h1 h2, (hoff (hcl h2)).1⟩)
    refine ⟨⟨h.lo, u1, Int.le_trans u2 h.hi, fun ho => ⟨(h.flag ho).1, rfl⟩, fun ho => .inr (hoff ho), fun _ _ => hA, fun _ h2 => (by cases h2), fun k k0 kN hk => ?_⟩, u2, u3, v1, v0, v2⟩
    by_cases hks : k < s ∨ t ≤ k
    · exact h.out k k0 kN hks
    · refine keep_out_r fun hin => u6 (k + 1) (by omega) (by omega) ⟨hin.1, hin.2.1⟩
  · rw [if_neg hy0, if_neg hy0]
    obtain ⟨v0, u1, u2, v1, u3, v2, u6⟩ := axisB (oA := oA) (oB := oB) hy' hd.2 h.st hA.2 hy0 (fun h1 h2 => ⟨h.lt h1 h2, (hoff (hcl h2)).2⟩)
    refine ⟨⟨h.lo, u1, Int.le_trans u2 h.hi, fun ho => ⟨(h.flag ho).1, rfl⟩, fun ho => .inr (hoff ho), fun _ _ => hA, fun _ h2 => (by cases h2), fun k k0 kN hk => ?_⟩, u2, u3, v1, v0, v2⟩
    by_cases hks : k < s ∨ t ≤ k
    · exact h.out k k0 kN hks
    · refine keep_out_r fun hin => u6 (k + 1) (by omega) (by omega) hin.2.2

theorem acode_in {o : Bool} {l h x : Int} (hlh : l < h) (ha : acode o l h x = 0) : l ≤ x ∧ x ≤ h := by
  unfold acode at ha
  (repeat' split at ha) <;> omega

theorem acode_off {l h x : Int} (ha : acode true l h x = 0) : x ≠ l ∧ x ≠ h := by
  unfold acode at ha
  (repeat' split at ha) <;> (first | omega | simp at *)

theorem mid1 {l h p e s t k : Int} (he : e = -1 ∨ e = 0 ∨ e = 1) (h1 : l ≤ p + s * e ∧ p + s * e ≤ h) (h2 : l ≤ p + t * e ∧ p + t * e ≤ h) (hs : s ≤ k) (ht : k ≤ t) : l ≤ p + k * e ∧ p + k * e ≤ h := by
  rcases he with rfl | rfl | rfl <;> omega

theorem beyond1 {l h p e s t k : Int} {o oA oB : Bool} (hlh : l < h) (he : e = -1 ∨ e = 0 ∨ e = 1) (hs : s ≤ k) (ht : k < t) (hc : acode oA l h (p + s * e) = acode oB l h (p + t * e)) (hn : acode oA l h (p + s * e) ≠ 0) (ho : o = false → oA = false ∧ oB = false)
    (hi : (l ≤ p + k * e ∧ p + k * e ≤ h) ∧ (l ≤ p + (k + 1) * e ∧ p + (k + 1) * e ≤ h)) : o = true ∧ e = 0 ∧ (p = l ∨ p = h) := by
  unfold acode at hc hn
  rcases he with rfl | rfl | rfl <;> cases o <;> cases oA <;> cases oB <;> simp only [Bool.false_eq_true, if_false, if_true, reduceIte] at * <;> (first | (simp at ho; done) | ((repeat' split at hc) <;> (first | omega | (simp at *; omega))))

theorem off_along {k : Int} (hoff : Off lx ly hx hy P d) : alongB lx ly hx hy (ptK P d k) (ptK P d (k + 1)) = false := by
  unfold alongB ptK
  rw [Bool.or_eq_false_iff]
  constructor
  · rw [Bool.and_eq_false_imp]
    intro h
    have h := of_decide_eq_true h
    have z : d.1 = 0 := by simp only [Int.add_mul] at h; omega
    obtain ⟨f1, f2⟩ := hoff.1 z
    simp only [z, Int.mul_zero, Int.add_zero]
    simp [f1, f2]
  · rw [Bool.and_eq_false_imp]
    intro h
    have h := of_decide_eq_true h
    have z : d.2 = 0 := by simp only [Int.add_mul] at h; omega
    obtain ⟨f1, f2⟩ := hoff.2 z
    simp only [z, Int.mul_zero, Int.add_zero]
    simp [f1, f2]

theorem seg_main (hx' : lx < hx) (hy' : ly < hy) (hd : Dir d) : ∀ (n : Nat) (oA oB : Bool) (s t : Int), SInv o lx ly hx hy P d N oA oB s t → (t - s).toNat + (if oA = true then 1 else 0) + (if oB = true then 1 else 0) < n →
    (segL lx ly hx hy P d n oA oB s t = none → ¬ (acode oA lx hx (ptK P d s).1 = 0 ∧ acode oA ly hy (ptK P d s).2 = 0) ∧ ¬ (acode oB lx hx (ptK P d t).1 = 0 ∧ acode oB ly hy (ptK P d t).2 = 0) ∧ ∀ k, 0 ≤ k → k < N → keepB o lx ly hx hy (ptK P d k) (ptK P d (k + 1)) = false) ∧
    ∀ s' t', segL lx ly hx hy P d n oA oB s t = some (s', t') → (0 ≤ s' ∧ s' ≤ t' ∧ t' ≤ N) ∧ hasB lx ly hx hy (ptK P d s').1 (ptK P d s').2 = true ∧ hasB lx ly hx hy (ptK P d t').1 (ptK P d t').2 = true ∧
      ((acode oA lx hx (ptK P d s).1 = 0 ∧ acode oA ly hy (ptK P d s).2 = 0) → s' = s) ∧ ((acode oB lx hx (ptK P d t).1 = 0 ∧ acode oB ly hy (ptK P d t).2 = 0) → t' = t) ∧
      ∀ k, 0 ≤ k → k < N → keepB o lx ly hx hy (ptK P d k) (ptK P d (k + 1)) = decide (s' ≤ k ∧ k < t')
  | 0, _, _, _, _, _, hf => absurd hf (Nat.not_lt_zero _)
  | n + 1, oA, oB, s, t, inv, hf => by
    rw [segL]
    by_cases h0 : (acode oA lx hx (ptK P d s).1 = 0 ∧ acode oA ly hy (ptK P d s).2 = 0) ∧ (acode oB lx hx (ptK P d t).1 = 0 ∧ acode oB ly hy (ptK P d t).2 = 0)
    · rw [if_pos h0]
      refine ⟨fun h => (by cases h), fun s' t' h => ?_⟩
      cases h
      have ia := And.intro (acode_in hx' h0.1.1) (acode_in hy' h0.1.2)
      have ib := And.intro (acode_in hx' h0.2.1) (acode_in hy' h0.2.2)
      refine ⟨⟨inv.lo, inv.st, inv.hi⟩, hasB_iff.2 ⟨ia.1.1, ia.1.2, ia.2.1, ia.2.2⟩, hasB_iff.2 ⟨ib.1.1, ib.1.2, ib.2.1, ib.2.2⟩, fun _ => rfl, fun _ => rfl, fun k k0 kN => ?_⟩
      by_cases hk : s ≤ k ∧ k < t
      · rw [decide_eq_true hk]
        have m1 := mid1 hd.1 ia.1 ib.1 hk.1 (Int.le_of_lt hk.2)
        have m2 := mid1 hd.2 ia.2 ib.2 hk.1 (Int.le_of_lt hk.2)
        have m3 := mid1 (k := k + 1) hd.1 ia.1 ib.1 (by omega) (by omega)
        have m4 := mid1 (k := k + 1) hd.2 ia.2 ib.2 (by omega) (by omega)
        have e1 : hasB lx ly hx hy (ptK P d k).1 (ptK P d k).2 = true := hasB_iff.2 ⟨m1.1, m1.2, m2.1, m2.2⟩
        have e2 : hasB lx ly hx hy (ptK P d (k + 1)).1 (ptK P d (k + 1)).2 = true := hasB_iff.2 ⟨m3.1, m3.2, m4.1, m4.2⟩
        have e3 : (o && alongB lx ly hx hy (ptK P d k) (ptK P d (k + 1))) = false := by
          cases ho : o with
          | false => rfl
          | true =>
            have hoff : Off lx ly hx hy P d := by
              rcases inv.off ho with ⟨rfl, rfl⟩ | h
              · have a1 := acode_off h0.1.1
                have a2 := acode_off h0.1.2
                simp only [ptK] at a1 a2
                exact ⟨fun e => by rw [e] at a1; omega, fun e => by rw [e] at a2; omega⟩
              · exact h
            rw [Bool.true_and]
            exact off_along hoff
        simp [keepB, e1, e2, e3]
      · rw [decide_eq_false hk]
        exact inv.out k k0 kN (by omega)
    · rw [if_neg h0]
      by_cases h1 : (acode oA lx hx (ptK P d s).1 = acode oB lx hx (ptK P d t).1 ∧ acode oA lx hx (ptK P d s).1 ≠ 0) ∨ (acode oA ly hy (ptK P d s).2 = acode oB ly hy (ptK P d t).2 ∧ acode oA ly hy (ptK P d s).2 ≠ 0)
      · rw [if_pos h1]
        refine ⟨fun _ => ⟨fun e => ?_, fun e => ?_, fun k k0 kN => ?_⟩, fun s' t' h => (by cases h)⟩
        · rcases h1 with h | h
          · exact h.2 e.1
          · exact h.2 e.2
        · rcases h1 with h | h
          · exact h.2 (h.1.trans e.1)
          · exact h.2 (h.1.trans e.2)
        · by_cases hk : k < s ∨ t ≤ k
          · exact inv.out k k0 kN hk
          · by_cases hi1 : lx ≤ (ptK P d k).1 ∧ (ptK P d k).1 ≤ hx ∧ ly ≤ (ptK P d k).2 ∧ (ptK P d k).2 ≤ hy
            · by_cases hi2 : lx ≤ (ptK P d (k + 1)).1 ∧ (ptK P d (k + 1)).1 ≤ hx ∧ ly ≤ (ptK P d (k + 1)).2 ∧ (ptK P d (k + 1)).2 ≤ hy
              · have hal : o = true ∧ alongB lx ly hx hy (ptK P d k) (ptK P d (k + 1)) = true := by
                  rcases h1 with h | h
                  · obtain ⟨ho, he, hp⟩ := beyond1 hx' hd.1 (by omega) (by omega) h.1 h.2 inv.flag ⟨⟨hi1.1, hi1.2.1⟩, hi2.1, hi2.2.1⟩
                    refine ⟨ho, ?_⟩
                    simp only [alongB, ptK, he]
                    simp
                    omega
                  · obtain ⟨ho, he, hp⟩ := beyond1 hy' hd.2 (by omega) (by omega) h.1 h.2 inv.flag ⟨⟨hi1.2.2.1, hi1.2.2.2⟩, hi2.2.2.1, hi2.2.2.2⟩
                    refine ⟨ho, ?_⟩
                    simp only [alongB, ptK, he]
                    simp
                    omega
                simp [keepB, hal.1, hal.2]
              · exact keep_out_r hi2
            · exact keep_out_l hi1
      · rw [if_neg h1]
        by_cases hA : acode oA lx hx (ptK P d s).1 = 0 ∧ acode oA ly hy (ptK P d s).2 = 0
        · rw [if_neg (by exact not_not_intro hA)]
          have hB : ¬ (acode oB lx hx (ptK P d t).1 = 0 ∧ acode oB ly hy (ptK P d t).2 = 0) := fun h => h0 ⟨hA, h⟩
          obtain ⟨inv', u1, u2, _⟩ := inv.crossB hx' hy' hd hA hB
          have hm : (crossK lx ly hx hy P d (acode oB lx hx (ptK P d t).1) (acode oB ly hy (ptK P d t).2) - s).toNat + (if oA = true then 1 else 0) + (if false = true then 1 else 0) < n := by
            have := inv'.st
            cases oB with
            | false => have := u2 rfl; simp only [Bool.false_eq_true, if_false] at hf ⊢; omega
            | true => simp only [Bool.false_eq_true, if_false, if_true] at hf ⊢; omega
          obtain ⟨r1, r2⟩ := seg_main hx' hy' hd n oA false s _ inv' hm
          refine ⟨fun h => absurd hA (r1 h).1, fun s' t' h => ?_⟩
          obtain ⟨q1, q2, q3, q4, _, q6⟩ := r2 s' t' h
          exact ⟨q1, q2, q3, q4, fun h => absurd h hB, q6⟩
        · rw [if_pos hA]
          obtain ⟨inv', u1, u2, _⟩ := inv.crossA hx' hy' hd h1 hA
          have hm : (t - crossK lx ly hx hy P d (acode oA lx hx (ptK P d s).1) (acode oA ly hy (ptK P d s).2)).toNat + (if false = true then 1 else 0) + (if oB = true then 1 else 0) < n := by
            have := inv'.st
            cases oA with
            | false => have := u2 rfl; simp only [Bool.false_eq_true, if_false] at hf ⊢; omega
            | true => simp only [Bool.false_eq_true, if_false, if_true] at hf ⊢; omega
          obtain ⟨r1, r2⟩ := seg_main hx' hy' hd n false oB _ t inv' hm
          refine ⟨fun h => ⟨hA, (r1 h).2⟩, fun s' t' h => ?_⟩
          obtain ⟨q1, q2, q3, _, q5, q6⟩ := r2 s' t' h
          exact ⟨q1, q2, q3, fun h => absurd h hA, q5, q6⟩
end

/-- From one point to another: the direction, and how many steps. -/
def sgn (n : Int) : Int := max (-1) (min 1 n)
def dirK (P Q : Int × Int) : Int × Int := (sgn (Q.1 - P.1), sgn (Q.2 - P.2))
def lenK (P Q : Int × Int) : Int := max (max (Q.1 - P.1) (P.1 - Q.1)) (max (Q.2 - P.2) (P.2 - Q.2))

theorem dir_ok (P Q : Int × Int) : Dir (dirK P Q) := by
  unfold Dir dirK sgn; constructor <;> simp only <;> omega

theorem len_nonneg (P Q : Int × Int) : 0 ≤ lenK P Q := by unfold lenK; omega

theorem pt_zero (P d : Int × Int) : ptK P d 0 = P := by unfold ptK; simp

theorem pt_len {P Q : Int × Int} (h : Octi P Q) : ptK P (dirK P Q) (lenK P Q) = Q := by
  have hd := dir_ok P Q
  unfold Octi at h
  have e1 : (dirK P Q).1 = sgn (Q.1 - P.1) := rfl
  have e2 : (dirK P Q).2 = sgn (Q.2 - P.2) := rfl
  unfold ptK
  refine Prod.ext ?_ ?_
  · show P.1 + lenK P Q * (dirK P Q).1 = Q.1
    rcases hd.1 with e | e | e <;> rw [e1] at e <;> rw [e1, e] <;> unfold sgn at e <;> unfold lenK <;> omega
  · show P.2 + lenK P Q * (dirK P Q).2 = Q.2
    rcases hd.2 with e | e | e <;> rw [e2] at e <;> rw [e2, e] <;> unfold sgn at e <;> unfold lenK <;> omega

theorem near_mid {P d : Int × Int} (hd : Dir d) {N k : Int} (hP : Near P) (hQ : Near (ptK P d N)) (h0 : 0 ≤ k) (hN : k ≤ N) : Near (ptK P d k) := by
  unfold Near ptK at *
  refine ⟨mid1 hd.1 (s := 0) (t := N) (by simpa using hP.1) hQ.1 h0 hN, mid1 hd.2 (s := 0) (t := N) (by simpa using hP.2) hQ.2 h0 hN⟩

theorem inv_start {o : Bool} {lx ly hx hy : Int} {P d : Int × Int} {N : Int} (h : 0 ≤ N) : SInv o lx ly hx hy P d N o o 0 N :=
  ⟨by omega, h, by omega, fun ho => ⟨ho, ho⟩, fun ho => .inl ⟨ho, ho⟩, fun h1 h2 => (by rw [h1] at h2; cases h2), fun h1 h2 => (by rw [h1] at h2; cases h2), fun k k0 kN hk => by omega⟩
end Go.Proofs.Ytafanlbfbfbeoaa
