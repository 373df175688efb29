/- How often a ring goes around a point: what a side of the box leaves of it goes as often. -/
import Derived.Test.YtafanlbfbfbeoaaRq
namespace Go.Proofs.Ytafanlbfbfbeoaa

def leftI (X Y : Int) (a b : Int × Int) : Int := (4 * b.1 - 4 * a.1) * (4 * Y + 1 - 4 * a.2) - (4 * X + 2 - 4 * a.1) * (4 * b.2 - 4 * a.2)

/-- What a line counts. -/
def crossI (X Y : Int) (a b : Int × Int) : Int :=
  (if 4 * a.2 ≤ 4 * Y + 1 ∧ 4 * Y + 1 < 4 * b.2 ∧ 0 < leftI X Y a b then 1 else 0) + (if 4 * Y + 1 < 4 * a.2 ∧ 4 * b.2 ≤ 4 * Y + 1 ∧ leftI X Y a b < 0 then -1 else 0)

def highI (Y : Int) (p : Int × Int) : Int := if Y < p.2 then 1 else 0

/-- All the lines of a chain. -/
def chainI (X Y : Int) : Int × Int → List (Int × Int) → Int
  | _, [] => 0
  | q, p :: ps => crossI X Y q p + chainI X Y p ps

def windI (X Y : Int) (ps : List (Int × Int)) : Int := chainI X Y (lastOr (0, 0) ps) ps

theorem cross_flat {X Y : Int} {a b : Int × Int} (h : highI Y a = highI Y b) : crossI X Y a b = 0 := by
  unfold highI at h
  unfold crossI
  rw [if_neg, if_neg]
  · rfl
  · rintro ⟨h1, h2, _⟩; split at h <;> split at h <;> omega
  · rintro ⟨h1, h2, _⟩; split at h <;> split at h <;> omega

/-- A line counts if it meets the height of the point to the right of it. -/
theorem cross_slope {X Y s : Int} {a b : Int × Int} (hs : b.1 - a.1 = s * (b.2 - a.2)) :
    crossI X Y a b = if 4 * X + 2 < 4 * a.1 + s * (4 * Y + 1 - 4 * a.2) then highI Y b - highI Y a else 0 := by
  have hl : leftI X Y a b = 4 * (b.2 - a.2) * (4 * a.1 + s * (4 * Y + 1 - 4 * a.2) - (4 * X + 2)) := by
    unfold leftI
    grind
  by_cases hf : highI Y a = highI Y b
  · rw [cross_flat hf, hf]
    split <;> omega
  · generalize 4 * a.1 + s * (4 * Y + 1 - 4 * a.2) = c at *
    unfold highI at hf ⊢
    unfold crossI
    rw [hl]
    by_cases ha : Y < a.2 <;> by_cases hb : Y < b.2
    · simp [ha, hb] at hf
    · rw [if_neg (by omega)]
      by_cases hc : 4 * X + 2 < c
      · rw [if_pos ⟨by omega, by omega, Int.mul_neg_of_neg_of_pos (by omega) (by omega)⟩, if_pos hc, if_neg hb, if_pos ha]; rfl
      · rw [if_neg, if_neg hc]
        · rfl
        · rintro ⟨_, _, h⟩
          have := Int.mul_nonneg_of_nonpos_of_nonpos (a := 4 * (b.2 - a.2)) (b := c - (4 * X + 2)) (by omega) (by omega)
          omega
    · rw [if_neg (c := 4 * Y + 1 < 4 * a.2 ∧ _) (by omega)]
      by_cases hc : 4 * X + 2 < c
      · rw [if_pos ⟨by omega, by omega, Int.mul_pos (by omega) (by omega)⟩, if_pos hc, if_pos hb, if_neg ha]; rfl
      · rw [if_neg, if_neg hc]
        · rfl
        · rintro ⟨_, _, h⟩
          have := Int.mul_nonpos_of_nonneg_of_nonpos (a := 4 * (b.2 - a.2)) (b := c - (4 * X + 2)) (by omega) (by omega)
          omega
    · simp [ha, hb] at hf

theorem cross_split {X Y s : Int} {q c p : Int × Int} (h1 : c.1 - q.1 = s * (c.2 - q.2)) (h2 : p.1 - q.1 = s * (p.2 - q.2)) : crossI X Y q p = crossI X Y q c + crossI X Y c p := by
  have h3 : p.1 - c.1 = s * (p.2 - c.2) := by grind
  have e : 4 * c.1 + s * (4 * Y + 1 - 4 * c.2) = 4 * q.1 + s * (4 * Y + 1 - 4 * q.2) := by grind
  rw [cross_slope h1, cross_slope h2, cross_slope h3, e]
  split <;> omega

theorem cross_flat3 {X Y : Int} {q c p : Int × Int} (h1 : c.2 = q.2) (h2 : p.2 = q.2) : crossI X Y q p = crossI X Y q c + crossI X Y c p := by
  rw [cross_flat (a := q) (b := p), cross_flat (a := q) (b := c), cross_flat (a := c) (b := p)] <;> simp [highI, h1, h2]

/-- Beyond a side, or on it. -/
def outB (lx ly hx hy e : Int) (p : Int × Int) : Prop := if e = 1 then p.1 ≤ lx else if e = 2 then hx ≤ p.1 else if e = 4 then p.2 ≤ ly else hy ≤ p.2

theorem outB_1 (lx ly hx hy : Int) (p : Int × Int) : outB lx ly hx hy 1 p = (p.1 ≤ lx) := rfl
theorem outB_2 (lx ly hx hy : Int) (p : Int × Int) : outB lx ly hx hy 2 p = (hx ≤ p.1) := rfl
theorem outB_4 (lx ly hx hy : Int) (p : Int × Int) : outB lx ly hx hy 4 p = (p.2 ≤ ly) := rfl
theorem outB_8 (lx ly hx hy : Int) (p : Int × Int) : outB lx ly hx hy 8 p = (hy ≤ p.2) := rfl

/-- What lines beyond a side count, from where to where. -/
def gI (Y e : Int) (p : Int × Int) : Int := if e = 2 then highI Y p else 0

theorem octi_cases {a b : Int × Int} (h : Octi a b) : (∃ s : Int, (s = 0 ∨ s = 1 ∨ s = -1) ∧ b.1 - a.1 = s * (b.2 - a.2)) ∨ b.2 = a.2 := by
  unfold Octi at h
  rcases h with h | h | h | h
  · exact .inl ⟨0, by simp, by omega⟩
  · exact .inr h.symm
  · exact .inl ⟨1, by simp, by omega⟩
  · exact .inl ⟨-1, by simp, by omega⟩

theorem cross_out {X Y lx ly hx hy e : Int} (he : Side e) (hX : lx ≤ X ∧ X < hx) (hY : ly ≤ Y ∧ Y < hy) {a b : Int × Int} (ha : outB lx ly hx hy e a) (hb : outB lx ly hx hy e b) (ho : Octi a b) : crossI X Y a b = gI Y e b - gI Y e a := by
  rcases he with rfl | rfl | rfl | rfl
  · rw [outB_1] at ha hb
    rcases octi_cases ho with ⟨s, hs, hd⟩ | hf
    · rw [cross_slope hd]
      unfold highI gI
      rcases hs with rfl | rfl | rfl <;> (repeat' split) <;> omega
    · rw [cross_flat (by simp [highI, hf])]; rfl
  · rw [outB_2] at ha hb
    rcases octi_cases ho with ⟨s, hs, hd⟩ | hf
    · rw [cross_slope hd]
      unfold gI
      rw [if_pos rfl, if_pos rfl]
      unfold highI
      rcases hs with rfl | rfl | rfl <;> (repeat' split) <;> omega
    · rw [cross_flat (by simp [highI, hf])]
      simp [gI, highI, hf]
  · rw [outB_4] at ha hb
    rw [cross_flat (by unfold highI; rw [if_neg (by omega), if_neg (by omega)])]; rfl
  · rw [outB_8] at ha hb
    rw [cross_flat (by unfold highI; rw [if_pos (by omega), if_pos (by omega)])]; rfl

theorem out_on {lx ly hx hy e : Int} {p : Int × Int} (he : Side e) (h : onB lx ly hx hy e p) : outB lx ly hx hy e p := by
  rcases he with rfl | rfl | rfl | rfl
  · rw [onB_1] at h; rw [outB_1]; omega
  · rw [onB_2] at h; rw [outB_2]; omega
  · rw [onB_4] at h; rw [outB_4]; omega
  · rw [onB_8] at h; rw [outB_8]; omega

theorem out_not {lx ly hx hy e : Int} {p : Int × Int} (he : Side e) (h : inB lx ly hx hy e p = false) : outB lx ly hx hy e p := by
  rcases he with rfl | rfl | rfl | rfl
  · rw [inB_1, decide_eq_false_iff_not] at h; rw [outB_1]; omega
  · rw [inB_2, decide_eq_false_iff_not] at h; rw [outB_2]; omega
  · rw [inB_4, decide_eq_false_iff_not] at h; rw [outB_4]; omega
  · rw [inB_8, decide_eq_false_iff_not] at h; rw [outB_8]; omega

theorem cross_cut {X Y lx ly hx hy e : Int} {q p : Int × Int} (he : Side e) (ho : Octi q p) (hd : inB lx ly hx hy e p ≠ inB lx ly hx hy e q) :
    crossI X Y q p = crossI X Y q (cutP lx ly hx hy e q p) + crossI X Y (cutP lx ly hx hy e q p) p := by
  obtain ⟨s, hs, ⟨m, hm, hb, hc, _⟩ | ⟨m, hm, hb, hc, _⟩⟩ := cut_form he ho hd
  · rw [hc]
    exact cross_split (s := s) (by simp only; omega) hb
  · rw [hc]
    rcases hs with rfl | rfl | rfl
    · exact cross_flat3 (by simp) (by omega)
    · exact cross_split (s := 1) (by simp only; omega) (by omega)
    · exact cross_split (s := -1) (by simp only; omega) (by omega)

theorem chain_append (X Y : Int) : ∀ (a b : List (Int × Int)) (q : Int × Int), chainI X Y q (a ++ b) = chainI X Y q a + chainI X Y (lastOr q a) b
  | [], b, q => by simp [chainI, lastOr]
  | x :: a, b, q => by rw [List.cons_append, chainI, chainI, chain_append X Y a b x, lastOr_cons]; omega

/-- What is owed between the ring and what is left of it. -/
def owed (Y lx ly hx hy e : Int) (q r : Int × Int) : Int := if inB lx ly hx hy e q then 0 else gI Y e q - gI Y e r

theorem clip_winds {X Y lx ly hx hy e : Int} (he : Side e) (hX : lx ≤ X ∧ X < hx) (hY : ly ≤ Y ∧ Y < hy) : ∀ (l : List (Int × Int)) (q r : Int × Int), Near q → (∀ p ∈ l, Near p) → OctiL q l → Inv lx ly hx hy e q r →
    chainI X Y q l = chainI X Y r (clipL (inB lx ly hx hy e) (cutP lx ly hx hy e) q l) + owed Y lx ly hx hy e (lastOr q l) (lastOr r (clipL (inB lx ly hx hy e) (cutP lx ly hx hy e) q l)) - owed Y lx ly hx hy e q r
  | [], q, r, _, _, _, _ => by simp [chainI, clipL, lastOr]
  | p :: l, q, r, hq, hn, ho, hi => by
    have hp : Near p := hn p (by simp)
    have step : Inv lx ly hx hy e p (lastOr r (emit (inB lx ly hx hy e) (cutP lx ly hx hy e) q p)) ∧
        crossI X Y q p = chainI X Y r (emit (inB lx ly hx hy e) (cutP lx ly hx hy e) q p) + owed Y lx ly hx hy e p (lastOr r (emit (inB lx ly hx hy e) (cutP lx ly hx hy e) q p)) - owed Y lx ly hx hy e q r := by
      unfold emit owed
      cases hpi : inB lx ly hx hy e p <;> cases hqi : inB lx ly hx hy e q
      · refine ⟨⟨by simp [hpi], fun _ => by simpa [lastOr] using hi.2 hqi⟩, ?_⟩
        have := cross_out he hX hY (out_not he hqi) (out_not he hpi) ho.1
        simp [chainI, lastOr]
        omega
      · obtain ⟨f1, f2, f3, f4⟩ := cut_facts he hq hp ho.1 (by rw [hpi, hqi]; decide)
        obtain rfl := hi.1 hqi
        refine ⟨⟨by simp [hpi], fun _ => by simpa [lastOr] using f3⟩, ?_⟩
        have h1 := cross_cut (X := X) (Y := Y) he ho.1 (by rw [hpi, hqi]; decide)
        have h2 := cross_out he hX hY (out_on he f3) (out_not he hpi) f2
        simp [chainI, lastOr]
        omega
      · obtain ⟨f1, f2, f3, f4⟩ := cut_facts he hq hp ho.1 (by rw [hpi, hqi]; decide)
        refine ⟨⟨fun _ => by simp [lastOr], by simp [hpi]⟩, ?_⟩
        have h1 := cross_cut (X := X) (Y := Y) he ho.1 (by rw [hpi, hqi]; decide)
        have h2 := cross_out he hX hY (out_not he hqi) (out_on he f3) f1
        have h3 := cross_out he hX hY (out_on he (hi.2 hqi)) (out_on he f3) (on_octi he (hi.2 hqi) f3)
        simp [chainI, lastOr]
        omega
      · obtain rfl := hi.1 hqi
        refine ⟨⟨fun _ => by simp [lastOr], by simp [hpi]⟩, ?_⟩
        simp [chainI]
    have ih := clip_winds he hX hY l p _ hp (fun u hu => hn u (by simp [hu])) ho.2 step.1
    rw [clipL, chainI, chain_append, lastOr_append, lastOr_cons, ih, step.2]
    omega

theorem pass_winds {X Y lx ly hx hy e : Int} (he : Side e) (hX : lx ≤ X ∧ X < hx) (hY : ly ≤ Y ∧ Y < hy) {ps : List (Int × Int)} (hn : ∀ p ∈ ps, Near p) (ho : OctiR ps) : windI X Y (passL lx ly hx hy e ps) = windI X Y ps := by
  by_cases hz : ps = []
  · subst hz; rfl
  have hq : Near (lastOr (0, 0) ps) := hn _ (lastOr_mem _ hz)
  have hb : ∃ b, Inv lx ly hx hy e (lastOr (0, 0) ps) b := by
    cases hi : inB lx ly hx hy e (lastOr (0, 0) ps)
    · refine ⟨(if e = 1 then lx else hx, if e = 4 then ly else hy), by simp [hi], fun _ => ?_⟩
      rcases he with rfl | rfl | rfl | rfl <;> rfl
    · exact ⟨_, fun _ => rfl, by simp [hi]⟩
  obtain ⟨b, hb⟩ := hb
  have e1 : lastOr (lastOr (0, 0) ps) ps = lastOr (0, 0) ps := lastOr_ne _ _ hz
  by_cases hy' : passL lx ly hx hy e ps = []
  · have h := clip_winds he hX hY ps _ b hq hn ho hb
    unfold passL at hy'
    rw [hy', e1] at h
    unfold windI passL
    rw [hy', h]
    simp [chainI, lastOr]
  · obtain ⟨_, i2, _⟩ := clip_octi he ps _ b hq hn ho hb
    have e2 : lastOr b (passL lx ly hx hy e ps) = lastOr (0, 0) (passL lx ly hx hy e ps) := lastOr_ne _ _ hy'
    rw [e1] at i2
    have i4 : Inv lx ly hx hy e (lastOr (0, 0) ps) (lastOr (0, 0) (passL lx ly hx hy e ps)) := by rw [← e2]; exact i2
    have h := clip_winds he hX hY ps _ _ hq hn ho i4
    rw [e1] at h
    have e3 : lastOr (lastOr (0, 0) (passL lx ly hx hy e ps)) (passL lx ly hx hy e ps) = lastOr (0, 0) (passL lx ly hx hy e ps) := lastOr_ne _ _ hy'
    unfold windI
    rw [h]
    have e4 : clipL (inB lx ly hx hy e) (cutP lx ly hx hy e) (lastOr (0, 0) ps) ps = passL lx ly hx hy e ps := rfl
    rw [e4, e3]
    omega

theorem cross_self (X Y : Int) (p : Int × Int) : crossI X Y p p = 0 := cross_flat rfl

theorem close_winds (X Y : Int) (ps : List (Int × Int)) : windI X Y (closeL ps) = windI X Y ps := by
  unfold closeL
  split
  · rfl
  · cases ps with
    | nil => rfl
    | cons f t =>
      unfold windI
      rw [lastOr_append, chain_append]
      show chainI X Y f (f :: t) + chainI X Y (lastOr f (f :: t)) [f] = _
      rw [chainI, chainI, chainI, chainI, cross_self, lastOr_ne f (0, 0) (by simp)]
      omega

/-- A ring goes around a point within the box as often as what is left of it. -/
theorem ring_winds {X Y lx ly hx hy : Int} (hX : lx ≤ X ∧ X < hx) (hY : ly ≤ Y ∧ Y < hy) {ps : List (Int × Int)} (hn : ∀ p ∈ ps, Near p) (ho : OctiR ps) : windI X Y (ringL lx ly hx hy ps) = windI X Y ps := by
  obtain ⟨o1, n1, _⟩ := pass_facts (lx := lx) (ly := ly) (hx := hx) (hy := hy) (.inl rfl : Side 1) ps hn ho
  obtain ⟨o2, n2, _⟩ := pass_facts (lx := lx) (ly := ly) (hx := hx) (hy := hy) (.inr (.inl rfl) : Side 2) _ n1 o1
  obtain ⟨o3, n3, _⟩ := pass_facts (lx := lx) (ly := ly) (hx := hx) (hy := hy) (.inr (.inr (.inl rfl)) : Side 4) _ n2 o2
  unfold ringL sidesL
  rw [close_winds, pass_winds (.inr (.inr (.inr rfl)) : Side 8) hX hY n3 o3, pass_winds (.inr (.inr (.inl rfl)) : Side 4) hX hY n2 o2, pass_winds (.inr (.inl rfl) : Side 2) hX hY n1 o1, pass_winds (.inl rfl : Side 1) hX hY hn ho]
end Go.Proofs.Ytafanlbfbfbeoaa
