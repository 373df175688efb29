/- What the proofs over smartclip lean on, part 41 of 48. -/
import Derived.Test.YtafanlbfbfbeoaaM36
import Derived.Deep.QuietTactic
import Derived.BigQuiet
import Derived.BigRegion

/- A ring, clipped, is a ring. -/
namespace Go.Proofs.Ytafanlbfbfbeoaa

theorem sides_facts {lx ly hx hy : Int} {ps : List (Int × Int)} (hn : ∀ p ∈ ps, Near p) (ho : OctiR ps) : (∀ p ∈ sidesL lx ly hx hy ps, Near p) ∧ OctiR (sidesL lx ly hx hy ps) := by
  obtain ⟨o1, n1, _⟩ := pass_facts (lx := lx) (ly := ly) (hx := hx) (hy := hy) (.inl rfl : Side 1) ps hn ho
  obtain ⟨o2, n2, _⟩ := pass_facts (lx := lx) (ly := ly) (hx := hx) (hy := hy) (.inr (.inl rfl) : Side 2) _ n1 o1
  obtain ⟨o3, n3, _⟩ := pass_facts (lx := lx) (ly := ly) (hx := hx) (hy := hy) (.inr (.inr (.inl rfl)) : Side 4) _ n2 o2
  obtain ⟨o4, n4, _⟩ := pass_facts (lx := lx) (ly := ly) (hx := hx) (hy := hy) (.inr (.inr (.inr rfl)) : Side 8) _ n3 o3
  exact ⟨n4, o4⟩

theorem close_facts {ps : List (Int × Int)} (hn : ∀ p ∈ ps, Near p) (ho : OctiR ps) : (∀ p ∈ closeL ps, Near p) ∧ OctiR (closeL ps) ∧ (closeL ps).head? = (closeL ps).getLast? := by
  unfold closeL
  split
  · rename_i h; exact ⟨hn, ho, h⟩
  · cases ps with
    | nil => exact ⟨hn, ho, rfl⟩
    | cons f t =>
      refine ⟨?_, ?_, ?_⟩
      · intro p hp
        rcases List.mem_append.1 hp with h | h
        · exact hn p h
        · simp at h; subst h; exact hn p (by simp)
      · unfold OctiR at ho ⊢
        rw [lastOr_append]
        show OctiL f (f :: t ++ [f])
        rw [octiL_append]
        refine ⟨⟨octi_self f, ho.2⟩, ?_, trivial⟩
        have h1 := ho.1
        rw [lastOr_ne (0, 0) f (by simp)] at h1
        exact h1
      · show some f = ((f :: t) ++ [f]).getLast?
        rw [List.getLast?_append]; rfl

theorem ring_facts {lx ly hx hy : Int} {ps : List (Int × Int)} (hn : ∀ p ∈ ps, Near p) (ho : OctiR ps) : (∀ p ∈ ringL lx ly hx hy ps, Near p) ∧ OctiR (ringL lx ly hx hy ps) ∧ (ringL lx ly hx hy ps).head? = (ringL lx ly hx hy ps).getLast? :=
  have h := sides_facts (lx := lx) (ly := ly) (hx := hx) (hy := hy) hn ho
  close_facts h.1 h.2
end Go.Proofs.Ytafanlbfbfbeoaa

/- How often a ring goes around a point: what a side of the box leaves of it goes as often. -/
namespace Go.Proofs.Ytafanlbfbfbeoaa

def leftI (X Y : Int) (a b : Int × Int) : Int := (4 * b.1 - 4 * a.1) * (4 * Y + 1 - 4 * a.2) - (4 * X + 2 - 4 * a.1) * (4 * b.2 - 4 * a.2)

/-- What a line counts. -/
def crossI (X Y : Int) (a b : Int × Int) : Int :=
  (if 4 * a.2 ≤ 4 * Y + 1 ∧ 4 * Y + 1 < 4 * b.2 ∧ 0 < leftI X Y a b then 1 else 0) + (if 4 * Y + 1 < 4 * a.2 ∧ 4 * b.2 ≤ 4 * Y + 1 ∧ leftI X Y a b < 0 then -1 else 0)

def highI (Y : Int) (p : Int × Int) : Int := if Y < p.2 then 1 else 0

/-- All the lines of a chain. -/
def chainI (X Y : Int) : Int × Int → List (Int × Int) → Int
  | _, [] => 0
  | q, p :: ps => crossI X Y q p + chainI X Y p ps

def windI (X Y : Int) (ps : List (Int × Int)) : Int := chainI X Y (lastOr (0, 0) ps) ps

theorem cross_flat {X Y : Int} {a b : Int × Int} (h : highI Y a = highI Y b) : crossI X Y a b = 0 := by
  unfold highI at h
  unfold crossI
  rw [if_neg, if_neg]
  · rfl
  · rintro ⟨h1, h2, _⟩; split at h <;> split at h <;> omega
  · rintro ⟨h1, h2, _⟩; split at h <;> split at h <;> omega

/-- A line counts if it meets the height of the point to the right of it. -/
theorem cross_slope {X Y s : Int} {a b : Int × Int} (hs : b.1 - a.1 = s * (b.2 - a.2)) :
    crossI X Y a b = if 4 * X + 2 < 4 * a.1 + s * (4 * Y + 1 - 4 * a.2) then highI Y b - highI Y a else 0 := by
  have hl : leftI X Y a b = 4 * (b.2 - a.2) * (4 * a.1 + s * (4 * Y + 1 - 4 * a.2) - (4 * X + 2)) := by
    unfold leftI
    grind
  by_cases hf : highI Y a = highI Y b
  · rw [cross_flat hf, hf]
    split <;> omega
  · generalize 4 * a.1 + s * (4 * Y + 1 - 4 * a.2) = c at *
    unfold highI at hf ⊢
    unfold crossI
    rw [hl]
    by_cases ha : Y < a.2 <;> by_cases hb : Y < b.2
    · simp [ha, hb] at hf
    · rw [if_neg (by omega)]
      by_cases hc : 4 * X + 2 < c
      · rw [if_pos ⟨by omega, by omega, Int.mul_neg_of_neg_of_pos (by omega) (by omega)⟩, if_pos hc, if_neg hb, if_pos ha]; rfl
      · rw [if_neg, if_neg hc]
        · rfl
        · rintro ⟨_, _, h⟩
          have := Int.mul_nonneg_of_nonpos_of_nonpos (a := 4 * (b.2 - a.2)) (b := c - (4 * X + 2)) (by omega) (by omega)
          omega
    · rw [if_neg (c := 4 * Y + 1 < 4 * a.2 ∧ _) (by omega)]
      by_cases hc : 4 * X + 2 < c
      · rw [if_pos ⟨by omega, by omega, Int.mul_pos (by omega) (by omega)⟩, if_pos hc, if_pos hb, if_neg ha]; rfl
      · rw [if_neg, if_neg hc]
        · rfl
        · rintro ⟨_, _, h⟩
          have := Int.mul_nonpos_of_nonneg_of_nonpos (a := 4 * (b.2 - a.2)) (b := c - (4 * X + 2)) (by omega) (by omega)
          omega
    · simp [ha, hb] at hf

theorem cross_split {X Y s : Int} {q c p : Int × Int} (h1 : c.1 - q.1 = s * (c.2 - q.2)) (h2 : p.1 - q.1 = s * (p.2 - q.2)) : crossI X Y q p = crossI X Y q c + crossI X Y c p := by
  have h3 : p.1 - c.1 = s * (p.2 - c.2) := by grind
  have e : 4 * c.1 + s * (4 * Y + 1 - 4 * c.2) = 4 * q.1 + s * (4 * Y + 1 - 4 * q.2) := by grind
  rw [cross_slope h1, cross_slope h2, cross_slope h3, e]
  split <;> omega

theorem cross_flat3 {X Y : Int} {q c p : Int × Int} (h1 : c.2 = q.2) (h2 : p.2 = q.2) : crossI X Y q p = crossI X Y q c + crossI X Y c p := by
  rw [cross_flat (a := q) (b := p), cross_flat (a := q) (b := c), cross_flat (a := c) (b := p)] <;> simp [highI, h1, h2]

/-- Beyond a side, or on it. -/
def outB (lx ly hx hy e : Int) (p : Int × Int) : Prop := if e = 1 then p.1 ≤ lx else if e = 2 then hx ≤ p.1 else if e = 4 then p.2 ≤ ly else hy ≤ p.2

theorem outB_1 (lx ly hx hy : Int) (p : Int × Int) : outB lx ly hx hy 1 p = (p.1 ≤ lx) := rfl
theorem outB_2 (lx ly hx hy : Int) (p : Int × Int) : outB lx ly hx hy 2 p = (hx ≤ p.1) := rfl
theorem outB_4 (lx ly hx hy : Int) (p : Int × Int) : outB lx ly hx hy 4 p = (p.2 ≤ ly) := rfl
theorem outB_8 (lx ly hx hy : Int) (p : Int × Int) : outB lx ly hx hy 8 p = (hy ≤ p.2) := rfl

/-- What lines beyond a side count, from where to where. -/
def gI (Y e : Int) (p : Int × Int) : Int := if e = 2 then highI Y p else 0

theorem octi_cases {a b : Int × Int} (h : Octi a b) : (∃ s : Int, (s = 0 ∨ s = 1 ∨ s = -1) ∧ b.1 - a.1 = s * (b.2 - a.2)) ∨ b.2 = a.2 := by
  unfold Octi at h
  rcases h with h | h | h | h
  · exact .inl ⟨0, by simp, by omega⟩
  · exact .inr h.symm
  · exact .inl ⟨1, by simp, by omega⟩
  · exact .inl ⟨-1, by simp, by omega⟩

theorem cross_out {X Y lx ly hx hy e : Int} (he : Side e) (hX : lx ≤ X ∧ X < hx) (hY : ly ≤ Y ∧ Y < hy) {a b : Int × Int} (ha : outB lx ly hx hy e a) (hb : outB lx ly hx hy e b) (ho : Octi a b) : crossI X Y a b = gI Y e b - gI Y e a := by
  rcases he with rfl | rfl | rfl | rfl
  · rw [outB_1] at ha hb
    rcases octi_cases ho with ⟨s, hs, hd⟩ | hf
    · rw [cross_slope hd]
      unfold highI gI
      rcases hs with rfl | rfl | rfl <;> (repeat' split) <;> omega
    · rw [cross_flat (by simp [highI, hf])]; rfl
  · rw [outB_2] at ha hb
    rcases octi_cases ho with ⟨s, hs, hd⟩ | hf
    · rw [cross_slope hd]
      unfold gI
      rw [if_pos rfl, if_pos rfl]
      unfold highI
      rcases hs with rfl | rfl | rfl <;> (repeat' split) <;> omega
    · rw [cross_flat (by simp [highI, hf])]
      simp [gI, highI, hf]
  · rw [outB_4] at ha hb
    rw [cross_flat (by unfold highI; rw [if_neg (by omega), if_neg (by omega)])]; rfl
  · rw [outB_8] at ha hb
    rw [cross_flat (by unfold highI; rw [if_pos (by omega), if_pos (by omega)])]; rfl

theorem out_on {lx ly hx hy e : Int} {p : Int × Int} (he : Side e) (h : onB lx ly hx hy e p) : outB lx ly hx hy e p := by
  rcases he with rfl | rfl | rfl | rfl
  · rw [onB_1] at h; rw [outB_1]; omega
  · rw [onB_2] at h; rw [outB_2]; omega
  · rw [onB_4] at h; rw [outB_4]; omega
  · rw [onB_8] at h; rw [outB_8]; omega

theorem out_not {lx ly hx hy e : Int} {p : Int × Int} (he : Side e) (h : inB lx ly hx hy e p = false) : outB lx ly hx hy e p := by
  rcases he with rfl | rfl | rfl | rfl
  · rw [inB_1, decide_eq_false_iff_not] at h; rw [outB_1]; omega
  · rw [inB_2, decide_eq_false_iff_not] at h; rw [outB_2]; omega
  · rw [inB_4, decide_eq_false_iff_not] at h; rw [outB_4]; omega
  · rw [inB_8, decide_eq_false_iff_not] at h; rw [outB_8]; omega

theorem cross_cut {X Y lx ly hx hy e : Int} {q p : Int × Int} (he : Side e) (ho : Octi q p) (hd : inB lx ly hx hy e p ≠ inB lx ly hx hy e q) :
    crossI X Y q p = crossI X Y q (cutP lx ly hx hy e q p) + crossI X Y (cutP lx ly hx hy e q p) p := by
  obtain ⟨s, hs, ⟨m, hm, hb, hc, _⟩ | ⟨m, hm, hb, hc, _⟩⟩ := cut_form he ho hd
  · rw [hc]
    exact cross_split (s := s) (by simp only; omega) hb
  · rw [hc]
    rcases hs with rfl | rfl | rfl
    · exact cross_flat3 (by simp) (by omega)
    · exact cross_split (s := 1) (by simp only; omega) (by omega)
    · exact cross_split (s := -1) (by simp only; omega) (by omega)

theorem chain_append (X Y : Int) : ∀ (a b : List (Int × Int)) (q : Int × Int), chainI X Y q (a ++ b) = chainI X Y q a + chainI X Y (lastOr q a) b
  | [], b, q => by simp [chainI, lastOr]
  | x :: a, b, q => by rw [List.cons_append, chainI, chainI, chain_append X Y a b x, lastOr_cons]; omega

/-- What is owed between the ring and what is left of it. -/
def owed (Y lx ly hx hy e : Int) (q r : Int × Int) : Int := if inB lx ly hx hy e q then 0 else gI Y e q - gI Y e r

theorem clip_winds {X Y lx ly hx hy e : Int} (he : Side e) (hX : lx ≤ X ∧ X < hx) (hY : ly ≤ Y ∧ Y < hy) : ∀ (l : List (Int × Int)) (q r : Int × Int), Near q → (∀ p ∈ l, Near p) → OctiL q l → Inv lx ly hx hy e q r →
    chainI X Y q l = chainI X Y r (clipL (inB lx ly hx hy e) (cutP lx ly hx hy e) q l) + owed Y lx ly hx hy e (lastOr q l) (lastOr r (clipL (inB lx ly hx hy e) (cutP lx ly hx hy e) q l)) - owed Y lx ly hx hy e q r
  | [], q, r, _, _, _, _ => by simp [chainI, clipL, lastOr]
  | p :: l, q, r, hq, hn, ho, hi => by
    have hp : Near p := hn p (by simp)
    have step : Inv lx ly hx hy e p (lastOr r (emit (inB lx ly hx hy e) (cutP lx ly hx hy e) q p)) ∧
        crossI X Y q p = chainI X Y r (emit (inB lx ly hx hy e) (cutP lx ly hx hy e) q p) + owed Y lx ly hx hy e p (lastOr r (emit (inB lx ly hx hy e) (cutP lx ly hx hy e) q p)) - owed Y lx ly hx hy e q r := by
      unfold emit owed
      cases hpi : inB lx ly hx hy e p <;> cases hqi : inB lx ly hx hy e q
      · refine ⟨⟨by simp [hpi], fun _ => by simpa [lastOr] using hi.2 hqi⟩, ?_⟩
        have := cross_out he hX hY (out_not he hqi) (out_not he hpi) ho.1
        simp [chainI, lastOr]
        omega
      · obtain ⟨f1, f2, f3, f4⟩ := cut_facts he hq hp ho.1 (by rw [hpi, hqi]; decide)
        obtain rfl := hi.1 hqi
        refine ⟨⟨by simp [hpi], fun _ => by simpa [lastOr] using f3⟩, ?_⟩
        have h1 := cross_cut (X := X) (Y := Y) he ho.1 (by rw [hpi, hqi]; decide)
        have h2 := cross_out he hX hY (out_on he f3) (out_not he hpi) f2
        simp [chainI, lastOr]
        omega
      · obtain ⟨f1, f2, f3, f4⟩ := cut_facts he hq hp ho.1 (by rw [hpi, hqi]; decide)
        refine ⟨⟨fun _ => by simp [lastOr], by simp [hpi]⟩, ?_⟩
        have h1 := cross_cut (X := X) (Y := Y) he ho.1 (by rw [hpi, hqi]; decide)
        have h2 := cross_out he hX hY (out_not he hqi) (out_on he f3) f1
        have h3 := cross_out he hX hY (out_on he (hi.2 hqi)) (out_on he f3) (on_octi he (hi.2 hqi) f3)
        simp [chainI]
        omega
      · obtain rfl := hi.1 hqi
        refine ⟨⟨fun _ => by simp [lastOr], by simp [hpi]⟩, ?_⟩
        simp [chainI]
    have ih := clip_winds he hX hY l p _ hp (fun u hu => hn u (by simp [hu])) ho.2 step.1
    rw [clipL, chainI, chain_append, lastOr_append, lastOr_cons, ih, step.2]
    omega

theorem pass_winds {X Y lx ly hx hy e : Int} (he : Side e) (hX : lx ≤ X ∧ X < hx) (hY : ly ≤ Y ∧ Y < hy) {ps : List (Int × Int)} (hn : ∀ p ∈ ps, Near p) (ho : OctiR ps) : windI X Y (passL lx ly hx hy e ps) = windI X Y ps := by
  by_cases hz : ps = []
  · subst hz; rfl
  have hq : Near (lastOr (0, 0) ps) := hn _ (lastOr_mem _ hz)
  have hb : ∃ b, Inv lx ly hx hy e (lastOr (0, 0) ps) b := by
    cases hi : inB lx ly hx hy e (lastOr (0, 0) ps)
    · refine ⟨(if e = 1 then lx else hx, if e = 4 then ly else hy), by simp [hi], fun _ => ?_⟩
      rcases he with rfl | rfl | rfl | rfl <;> rfl
    · exact ⟨_, fun _ => rfl, by simp [hi]⟩
  obtain ⟨b, hb⟩ := hb
  have e1 : lastOr (lastOr (0, 0) ps) ps = lastOr (0, 0) ps := lastOr_ne _ _ hz
  by_cases hy' : passL lx ly hx hy e ps = []
  · have h := clip_winds he hX hY ps _ b hq hn ho hb
    unfold passL at hy'
    rw [hy', e1] at h
    unfold windI passL
    rw [hy', h]
    simp [chainI, lastOr]
  · obtain ⟨_, i2, _⟩ := clip_octi he ps _ b hq hn ho hb
    have e2 : lastOr b (passL lx ly hx hy e ps) = lastOr (0, 0) (passL lx ly hx hy e ps) := lastOr_ne _ _ hy'
    rw [e1] at i2
    have i4 : Inv lx ly hx hy e (lastOr (0, 0) ps) (lastOr (0, 0) (passL lx ly hx hy e ps)) := by rw [← e2]; exact i2
    have h := clip_winds he hX hY ps _ _ hq hn ho i4
    rw [e1] at h
    have e3 : lastOr (lastOr (0, 0) (passL lx ly hx hy e ps)) (passL lx ly hx hy e ps) = lastOr (0, 0) (passL lx ly hx hy e ps) := lastOr_ne _ _ hy'
    unfold windI
    rw [h]
    have e4 : clipL (inB lx ly hx hy e) (cutP lx ly hx hy e) (lastOr (0, 0) ps) ps = passL lx ly hx hy e ps := rfl
    rw [e4, e3]
    omega

theorem cross_self (X Y : Int) (p : Int × Int) : crossI X Y p p = 0 := cross_flat rfl

theorem close_winds (X Y : Int) (ps : List (Int × Int)) : windI X Y (closeL ps) = windI X Y ps := by
  unfold closeL
  split
  · rfl
  · cases ps with
    | nil => rfl
    | cons f t =>
      unfold windI
      rw [lastOr_append, chain_append]
      show chainI X Y f (f :: t) + chainI X Y (lastOr f (f :: t)) [f] = _
      rw [chainI, chainI, chainI, chainI, cross_self, lastOr_ne f (0, 0) (by simp)]
      omega

/-- A ring goes around a point within the box as often as what is left of it. -/
theorem ring_winds {X Y lx ly hx hy : Int} (hX : lx ≤ X ∧ X < hx) (hY : ly ≤ Y ∧ Y < hy) {ps : List (Int × Int)} (hn : ∀ p ∈ ps, Near p) (ho : OctiR ps) : windI X Y (ringL lx ly hx hy ps) = windI X Y ps := by
  obtain ⟨o1, n1, _⟩ := pass_facts (lx := lx) (ly := ly) (hx := hx) (hy := hy) (.inl rfl : Side 1) ps hn ho
  obtain ⟨o2, n2, _⟩ := pass_facts (lx := lx) (ly := ly) (hx := hx) (hy := hy) (.inr (.inl rfl) : Side 2) _ n1 o1
  obtain ⟨o3, n3, _⟩ := pass_facts (lx := lx) (ly := ly) (hx := hx) (hy := hy) (.inr (.inr (.inl rfl)) : Side 4) _ n2 o2
  unfold ringL sidesL
  rw [close_winds, pass_winds (.inr (.inr (.inr rfl)) : Side 8) hX hY n3 o3, pass_winds (.inr (.inr (.inl rfl)) : Side 4) hX hY n2 o2, pass_winds (.inr (.inl rfl) : Side 2) hX hY n1 o1, pass_winds (.inl rfl : Side 1) hX hY hn ho]
end Go.Proofs.Ytafanlbfbfbeoaa

/- What is left of a ring lies in the box. -/
namespace Go.Proofs.Ytafanlbfbfbeoaa

theorem on_in {lx ly hx hy e : Int} {p : Int × Int} (he : Side e) (h : onB lx ly hx hy e p) : inB lx ly hx hy e p = true := by
  rcases he with rfl | rfl | rfl | rfl
  · rw [onB_1] at h; rw [inB_1, decide_eq_true_iff]; omega
  · rw [onB_2] at h; rw [inB_2, decide_eq_true_iff]; omega
  · rw [onB_4] at h; rw [inB_4, decide_eq_true_iff]; omega
  · rw [onB_8] at h; rw [inB_8, decide_eq_true_iff]; omega

theorem cut_mid {lx ly hx hy e : Int} {q p : Int × Int} (he : Side e) (ho : Octi q p) (hd : inB lx ly hx hy e p ≠ inB lx ly hx hy e q) :
    (min q.1 p.1 ≤ (cutP lx ly hx hy e q p).1 ∧ (cutP lx ly hx hy e q p).1 ≤ max q.1 p.1) ∧ (min q.2 p.2 ≤ (cutP lx ly hx hy e q p).2 ∧ (cutP lx ly hx hy e q p).2 ≤ max q.2 p.2) := by
  obtain ⟨s, hs, ⟨m, hm, hb, hc, hr⟩ | ⟨m, hm, hb, hc, hr⟩⟩ := cut_form he ho hd
  · rw [hc]; rcases hs with rfl | rfl | rfl <;> simp only <;> omega
  · rw [hc]; rcases hs with rfl | rfl | rfl <;> simp only <;> omega

theorem mid_in {lx ly hx hy e : Int} {q p c : Int × Int} (he : Side e) (hq : inB lx ly hx hy e q = true) (hp : inB lx ly hx hy e p = true) (h1 : min q.1 p.1 ≤ c.1 ∧ c.1 ≤ max q.1 p.1) (h2 : min q.2 p.2 ≤ c.2 ∧ c.2 ≤ max q.2 p.2) : inB lx ly hx hy e c = true := by
  rcases he with rfl | rfl | rfl | rfl
  · rw [inB_1, decide_eq_true_iff] at *; omega
  · rw [inB_2, decide_eq_true_iff] at *; omega
  · rw [inB_4, decide_eq_true_iff] at *; omega
  · rw [inB_8, decide_eq_true_iff] at *; omega

theorem clip_in {lx ly hx hy e : Int} (he : Side e) : ∀ (l : List (Int × Int)) (q : Int × Int), Near q → (∀ p ∈ l, Near p) → OctiL q l → ∀ u ∈ clipL (inB lx ly hx hy e) (cutP lx ly hx hy e) q l, inB lx ly hx hy e u = true
  | [], _, _, _, _, u, hu => by simp [clipL] at hu
  | p :: l, q, hq, hn, ho, u, hu => by
    have hp : Near p := hn p (by simp)
    rw [clipL] at hu
    rcases List.mem_append.1 hu with h | h
    · unfold emit at h
      rcases List.mem_append.1 h with h | h
      · split at h
        · simp at h
        · rename_i hne
          rw [List.mem_singleton.1 h]
          exact on_in he (cut_facts he hq hp ho.1 hne).2.2.1
      · split at h
        · rename_i hi; rw [List.mem_singleton.1 h]; exact hi
        · simp at h
    · exact clip_in he l p hp (fun v hv => hn v (by simp [hv])) ho.2 u h

theorem clip_keep {lx ly hx hy e d : Int} (he : Side e) (hd : Side d) : ∀ (l : List (Int × Int)) (q : Int × Int), inB lx ly hx hy d q = true → (∀ p ∈ l, inB lx ly hx hy d p = true) → OctiL q l → ∀ u ∈ clipL (inB lx ly hx hy e) (cutP lx ly hx hy e) q l, inB lx ly hx hy d u = true
  | [], _, _, _, _, u, hu => by simp [clipL] at hu
  | p :: l, q, hq, hn, ho, u, hu => by
    have hp := hn p (by simp)
    rw [clipL] at hu
    rcases List.mem_append.1 hu with h | h
    · unfold emit at h
      rcases List.mem_append.1 h with h | h
      · split at h
        · simp at h
        · rename_i hne
          rw [List.mem_singleton.1 h]
          obtain ⟨m1, m2⟩ := cut_mid he ho.1 hne
          exact mid_in hd hq hp m1 m2
      · split at h
        · rw [List.mem_singleton.1 h]; exact hp
        · simp at h
    · exact clip_keep he hd l p hp (fun v hv => hn v (by simp [hv])) ho.2 u h

theorem pass_in {lx ly hx hy e : Int} (he : Side e) {ps : List (Int × Int)} (hn : ∀ p ∈ ps, Near p) (ho : OctiR ps) : ∀ u ∈ passL lx ly hx hy e ps, inB lx ly hx hy e u = true := by
  by_cases hz : ps = []
  · subst hz; intro u hu; simp [passL, clipL] at hu
  · exact clip_in he ps _ (hn _ (lastOr_mem _ hz)) hn ho

theorem pass_keep {lx ly hx hy e d : Int} (he : Side e) (hd : Side d) {ps : List (Int × Int)} (hn : ∀ p ∈ ps, inB lx ly hx hy d p = true) (ho : OctiR ps) : ∀ u ∈ passL lx ly hx hy e ps, inB lx ly hx hy d u = true := by
  by_cases hz : ps = []
  · subst hz; intro u hu; simp [passL, clipL] at hu
  · exact clip_keep he hd ps _ (hn _ (lastOr_mem _ hz)) hn ho

theorem close_mem {ps : List (Int × Int)} {u : Int × Int} (h : u ∈ closeL ps) : u ∈ ps := by
  unfold closeL at h
  split at h
  · exact h
  · rcases List.mem_append.1 h with h | h
    · exact h
    · cases ps with
      | nil => simp at h
      | cons a b => simp at h; subst h; simp

/-- A ring, clipped, lies in the box. -/
theorem ring_in {lx ly hx hy : Int} {ps : List (Int × Int)} (hn : ∀ p ∈ ps, Near p) (ho : OctiR ps) : ∀ p ∈ ringL lx ly hx hy ps, hasB lx ly hx hy p.1 p.2 = true := by
  have s1 : Side 1 := .inl rfl
  have s2 : Side 2 := .inr (.inl rfl)
  have s4 : Side 4 := .inr (.inr (.inl rfl))
  have s8 : Side 8 := .inr (.inr (.inr rfl))
  obtain ⟨o1, n1, _⟩ := pass_facts (lx := lx) (ly := ly) (hx := hx) (hy := hy) s1 ps hn ho
  obtain ⟨o2, n2, _⟩ := pass_facts (lx := lx) (ly := ly) (hx := hx) (hy := hy) s2 _ n1 o1
  obtain ⟨o3, n3, _⟩ := pass_facts (lx := lx) (ly := ly) (hx := hx) (hy := hy) s4 _ n2 o2
  have i1 := pass_in (lx := lx) (ly := ly) (hx := hx) (hy := hy) s1 hn ho
  have j1 := pass_keep s2 s1 i1 o1
  have i2 := pass_in (lx := lx) (ly := ly) (hx := hx) (hy := hy) s2 n1 o1
  have k1 := pass_keep s4 s1 j1 o2
  have k2 := pass_keep s4 s2 i2 o2
  have i4 := pass_in (lx := lx) (ly := ly) (hx := hx) (hy := hy) s4 n2 o2
  have l1 := pass_keep s8 s1 k1 o3
  have l2 := pass_keep s8 s2 k2 o3
  have l4 := pass_keep s8 s4 i4 o3
  have i8 := pass_in (lx := lx) (ly := ly) (hx := hx) (hy := hy) s8 n3 o3
  intro p hp
  have hp := close_mem hp
  have a1 := l1 p hp
  have a2 := l2 p hp
  have a4 := l4 p hp
  have a8 := i8 p hp
  rw [inB_1, decide_eq_true_iff] at a1
  rw [inB_2, decide_eq_true_iff] at a2
  rw [inB_4, decide_eq_true_iff] at a4
  rw [inB_8, decide_eq_true_iff] at a8
  exact hasB_iff.2 ⟨a1, a2, a4, a8⟩
end Go.Proofs.Ytafanlbfbfbeoaa

/- Whether a box is small. -/
namespace Go.Proofs.Ytafanlbfbfbeoaa
open Go.RowKit

set_option maxRecDepth 100000 in
set_option maxHeartbeats 400000 in
theorem small_any (lx ly hx hy : Int) (h1 : -128 ≤ lx ∧ lx < hx ∧ hx ≤ 128) (h2 : -128 ≤ ly ∧ ly < hy ∧ hy ≤ 128) (w : World) :
    Calls Try.prog 18 #[.agg #[.int .i64 lx, .int .i64 ly, .int .i64 hx, .int .i64 hy]] w
      fun e w' => e = .returned (.bool (decide (hx - lx ≤ 40) && decide (hy - ly ≤ 40))) ∧ Below w.heap.size w w' := by
  go_enter Try.func18, Try.ntmps18
  go_wp2
  all_goals
    go_ret
    refine ⟨ret_bool ?_, (Below.refl _ _).alloc (Nat.le_refl _) _⟩
    simp
    try omega
end Go.Proofs.Ytafanlbfbfbeoaa

/- How often a ring goes around a point. -/
namespace Go.Proofs.Ytafanlbfbfbeoaa
open Go.RowKit

/-- The points, from the second one on, and the first one again. -/
def rotL : List (Int × Int) → List (Int × Int)
  | [] => []
  | p :: ps => ps ++ [p]

theorem rot_len : ∀ ps : List (Int × Int), (rotL ps).length = ps.length
  | [] => rfl
  | p :: ps => by simp [rotL]

theorem rot_get {ps : List (Int × Int)} {k : Nat} (h : k < ps.length) : (rotL ps)[k]'(by rw [rot_len]; exact h) = ps[(k + 1) % ps.length]'(Nat.mod_lt _ (by omega)) := by
  cases ps with
  | nil => simp at h
  | cons p ps =>
    by_cases hk : k < ps.length
    · have e : (k + 1) % (p :: ps).length = k + 1 := Nat.mod_eq_of_lt (by simp; omega)
      simp only [rotL, e, List.getElem_cons_succ]
      rw [List.getElem_append_left hk]
    · obtain rfl : k = ps.length := by simp at h; omega
      have e : (ps.length + 1) % (p :: ps).length = 0 := by simp
      simp only [rotL, e, List.getElem_cons_zero]
      rw [List.getElem_append_right (by omega)]
      simp

theorem rot_winds (X Y : Int) {ps : List (Int × Int)} (h : 0 < ps.length) : chainI X Y ps[0] (rotL ps) = windI X Y ps := by
  cases ps with
  | nil => simp at h
  | cons p ps =>
    show chainI X Y p (ps ++ [p]) = _
    unfold windI
    rw [chain_append, lastOr_cons]
    show _ = crossI X Y (lastOr p ps) p + chainI X Y p ps
    rw [chainI, chainI]
    omega

theorem cross_bd (X Y : Int) (a b : Int × Int) : -1 ≤ crossI X Y a b ∧ crossI X Y a b ≤ 1 := by
  unfold crossI
  split <;> split <;> omega

theorem chain_bd (X Y : Int) : ∀ (l : List (Int × Int)) (q : Int × Int), -(l.length : Int) ≤ chainI X Y q l ∧ chainI X Y q l ≤ l.length
  | [], q => by simp [chainI]
  | p :: l, q => by
    have h1 := cross_bd X Y q p
    have h2 := chain_bd X Y l p
    simp only [chainI, List.length_cons]
    omega

theorem rot_last {ps : List (Int × Int)} {k : Nat} (h : k < ps.length) : lastOr (ps.headD (0, 0)) ((rotL ps).take k) = ps[k] := by
  cases ps with
  | nil => simp at h
  | cons p ps =>
    have hk : k ≤ ps.length := by simp at h; omega
    show lastOr p ((ps ++ [p]).take k) = _
    rw [List.take_append_of_le_length hk]
    cases k with
    | zero => rfl
    | succ m =>
      have hl : (ps.take (m + 1)).length = m + 1 := by rw [List.length_take]; omega
      rw [last_is (by omega), List.getElem_cons_succ]
      simp only [hl, Nat.add_sub_cancel, List.getElem_take]

theorem prod_bd {p q : Int} (hp : -40000 ≤ p ∧ p ≤ 40000) (hq : -40000 ≤ q ∧ q ≤ 40000) : -1600000000 ≤ p * q ∧ p * q ≤ 1600000000 := by
  have h1 : (p * q).natAbs ≤ 40000 * 40000 := by
    rw [Int.natAbs_mul]
    exact Nat.mul_le_mul (by omega) (by omega)
  omega

theorem left_wrap {X Y : Int} {a b : Int × Int} (hX : -128 ≤ X ∧ X ≤ 128) (hY : -128 ≤ Y ∧ Y ≤ 128) (ha : Near a) (hb : Near b) :
    wrap64 (wrap64 ((4 * b.1 - 4 * a.1) * (4 * Y + 1 - 4 * a.2)) - wrap64 ((4 * X + 2 - 4 * a.1) * (4 * b.2 - 4 * a.2))) = leftI X Y a b := by
  obtain ⟨⟨n1, n2⟩, n3, n4⟩ := ha
  obtain ⟨⟨n5, n6⟩, n7, n8⟩ := hb
  have m1 := prod_bd (p := 4 * b.1 - 4 * a.1) (q := 4 * Y + 1 - 4 * a.2) (by omega) (by omega)
  have m2 := prod_bd (p := 4 * X + 2 - 4 * a.1) (q := 4 * b.2 - 4 * a.2) (by omega) (by omega)
  unfold leftI
  generalize (4 * b.1 - 4 * a.1) * (4 * Y + 1 - 4 * a.2) = P at *
  generalize (4 * X + 2 - 4 * a.1) * (4 * b.2 - 4 * a.2) = R at *
  have w1 : wrap64 P = P := by simp only [wrap64]; omega
  have w2 : wrap64 R = R := by simp only [wrap64]; omega
  rw [w1, w2]
  simp only [wrap64]; omega

set_option maxRecDepth 100000 in
set_option maxHeartbeats 2000000 in
theorem winds_any (X Y : Int) (hX : -128 ≤ X ∧ X ≤ 128) (hY : -128 ≤ Y ∧ Y ≤ 128) (ao : Option Addr) (cap : Nat) (ps : List (Int × Int)) (B : Nat) (w : World) (hl : ps.length ≤ 100000) (hn : ∀ p ∈ ps, Near p) (h : w.ownsRow B 25 2 (.slice ao ps.length cap) ps.length (ps.flatMap spotE)) :
    Calls Try.prog 36 #[.slice ao ps.length cap, .int .i64 (4 * X + 2), .int .i64 (4 * Y + 1), .int .i64 4] w
      fun e w' => e = .returned (.int .i64 (windI X Y ps)) ∧ Below w.heap.size w w' := by
  obtain ⟨g, hg, hc⟩ := spots_read h
  clear h
  go_enter Try.func36, Try.ntmps36
  go_wp2_with fail
  go_loopw [9, 20] (fun v i wr => ∃ (k : Nat) (c : Int), k ≤ ps.length ∧ i = .int .i64 k ∧ v = .int .i64 c ∧ Hid (c = chainI X Y (ps.headD (0, 0)) ((rotL ps).take k)) ∧ Below w.heap.size w wr)
    (fun _ i _ => ps.length - (intOf i).toNat)
  case atStart => exact ⟨0, 0, Nat.zero_le _, rfl, rfl, rfl, Below.refl _ _⟩
  case round =>
    obtain ⟨k, c, hk, rfl, rfl, HC, hbel⟩ := hrel
    by_cases hlt : k < ps.length
    · obtain ⟨rfl, hgs, _⟩ := hg (by omega)
      have hmod : (k + 1) % ps.length < ps.length := Nat.mod_lt _ (by omega)
      obtain ⟨c0, c1⟩ := hc k hlt
      obtain ⟨c2, c3⟩ := hc _ hmod
      have d0 : wr.cell? ⟨g, k * 2, none⟩ = some (.int .i64 ps[k].1) := (hbel.cell (by exact hgs)).trans c0
      have d1 : wr.cell? ⟨g, k * 2 + 1, none⟩ = some (.int .i64 ps[k].2) := (hbel.cell (by exact hgs)).trans c1
      have d2 : wr.cell? ⟨g, (k + 1) % ps.length * 2, none⟩ = some (.int .i64 ps[(k + 1) % ps.length].1) := (hbel.cell (by exact hgs)).trans c2
      have d3 : wr.cell? ⟨g, (k + 1) % ps.length * 2 + 1, none⟩ = some (.int .i64 ps[(k + 1) % ps.length].2) := (hbel.cell (by exact hgs)).trans c3
      have hgw : g < wr.heap.size := Nat.lt_of_lt_of_le hgs hbel.size
      obtain ⟨a, ha⟩ : ∃ a, a = ps[k] := ⟨_, rfl⟩
      obtain ⟨b, hb⟩ : ∃ b, b = ps[(k + 1) % ps.length] := ⟨_, rfl⟩
      rw [← ha] at d0 d1
      rw [← hb] at d2 d3
      have hna : Near a := by rw [ha]; exact hn _ (List.getElem_mem _)
      have hnb : Near b := by rw [hb]; exact hn _ (List.getElem_mem _)
      have HAB : Hid (a = ps[k] ∧ b = (rotL ps)[k]'(by rw [rot_len]; exact hlt)) := ⟨ha, hb.trans (rot_get hlt).symm⟩
      obtain ⟨j, hj⟩ : ∃ j, j = (k + 1) % ps.length := ⟨_, rfl⟩
      rw [← hj] at d2 d3
      have hjl : j < ps.length := by rw [hj]; exact hmod
      have hji : ((k : Int) + 1).tmod (ps.length : Int) = (j : Int) := by rw [hj, Int.tmod_eq_emod_of_nonneg (by omega)]; simp
      clear c0 c1 c2 c3 hc ha hb hj hmod
      go_wp2_with fail
      go_cut [11, 12] (fun s3 s4 wc => ∃ g3 g4 : Nat, s3 = .pointer (some ⟨g3, 0, none⟩) ∧ s4 = .pointer (some ⟨g4, 0, none⟩) ∧ Blk wc g3 #[.int .i64 a.1, .int .i64 a.2] 25 ∧ Blk wc g4 #[.int .i64 b.1, .int .i64 b.2] 25 ∧ Below w.heap.size w wc)
      case first =>
        have a0 : ∀ o, (wr.alloc o).cell? ⟨g, k * 2, none⟩ = some (.int .i64 a.1) := fun o => by rw [World.cell?_alloc_past _ _ _ hgw]; exact d0
        have a1 : ∀ o, (wr.alloc o).cell? ⟨g, k * 2 + 1, none⟩ = some (.int .i64 a.2) := fun o => by rw [World.cell?_alloc_past _ _ _ hgw]; exact d1
        have a2 : ∀ o, (wr.alloc o).cell? ⟨g, j * 2, none⟩ = some (.int .i64 b.1) := fun o => by rw [World.cell?_alloc_past _ _ _ hgw]; exact d2
        have a3 : ∀ o, (wr.alloc o).cell? ⟨g, j * 2 + 1, none⟩ = some (.int .i64 b.2) := fun o => by rw [World.cell?_alloc_past _ _ _ hgw]; exact d3
        go_region
        all_goals go_wp2_with fail
        all_goals go_meet
        · refine ⟨_, _, rfl, rfl, ((Blk.new wr #[.int .i64 a.1, .int .i64 a.2] 25).alloc _).drew, ?_, ((hbel.alloc hbel.size _).alloc (by have := hbel.size; simp; omega) _).drew⟩
          have hh := Blk.new (wr.alloc (.cells #[.int .i64 a.1, .int .i64 a.2] 25)) #[.int .i64 b.1, .int .i64 b.2] 25
          simp only [World.size_alloc] at hh
          exact hh.drew
        · refine ⟨_, _, rfl, rfl, ?_, ((Blk.new wr #[.int .i64 b.1, .int .i64 b.2] 25).alloc _).drew, ((hbel.alloc hbel.size _).alloc (by have := hbel.size; simp; omega) _).drew⟩
          have hh := Blk.new (wr.alloc (.cells #[.int .i64 b.1, .int .i64 b.2] 25)) #[.int .i64 a.1, .int .i64 a.2] 25
          simp only [World.size_alloc] at hh
          exact hh.drew
      case rest =>
        obtain ⟨g3, g4, rfl, rfl, b3, b4, hbc⟩ := hcut
        clear d0 d1 d2 d3 hgw hji hjl
        have x0 : wc.cell? ⟨g3, 0, none⟩ = some (.int .i64 a.1) := b3.cell 0
        have x1 : wc.cell? ⟨g3, 1, none⟩ = some (.int .i64 a.2) := b3.cell 1
        have y0 : wc.cell? ⟨g4, 0, none⟩ = some (.int .i64 b.1) := b4.cell 0
        have y1 : wc.cell? ⟨g4, 1, none⟩ = some (.int .i64 b.2) := b4.cell 1
        have hleft := left_wrap hX hY hna hnb
        have hcb : -100000 ≤ c ∧ c ≤ 100000 := by
          have h := chain_bd X Y ((rotL ps).take k) (ps.headD (0, 0))
          rw [← HC.out, List.length_take] at h
          omega
        obtain ⟨⟨n1, n2⟩, n3, n4⟩ := hna
        obtain ⟨⟨n5, n6⟩, n7, n8⟩ := hnb
        go_wp2_with fail
        go_quiet (fail)
        clear x0 x1 y0 y1 b3 b4
        have HN : Hid (chainI X Y (ps.headD (0, 0)) ((rotL ps).take (k + 1)) = c + crossI X Y a b) := by
          show _ = _
          rw [List.take_succ_eq_append_getElem (by rw [rot_len]; exact hlt), chain_append, ← HC.out, ← HAB.out.2]
          have hla : lastOr (ps.headD (0, 0)) ((rotL ps).take k) = a := by rw [rot_last hlt]; exact HAB.out.1.symm
          rw [hla]
          simp [chainI]
        go_wp2_with fail
        all_goals
          refine ⟨⟨k + 1, _, by omega, by go_num, rfl, ?_, below_drewN hbc _⟩, by simp [intOf]; omega⟩
          show _ = _
          rw [HN.out]
          unfold crossI
          (repeat' split) <;> omega
    · obtain rfl : k = ps.length := by omega
      have hW : Hid (c = windI X Y ps) := by
        show _ = _
        have hC := HC.out
        rw [← rot_len ps, List.take_length] at hC
        cases ps with
        | nil => rw [hC]; rfl
        | cons p ps => rw [hC]; exact rot_winds X Y (ps := p :: ps) (by simp)
      go_wp2
      go_ret
      exact ⟨by rw [hW.out]; rfl, hbel⟩
end Go.Proofs.Ytafanlbfbfbeoaa
