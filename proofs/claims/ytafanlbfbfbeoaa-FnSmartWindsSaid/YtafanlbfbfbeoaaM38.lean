/- What the proofs over smartclip lean on, part 39 of 48. -/
import Derived.Test.YtafanlbfbfbeoaaM37
import Derived.Test.YtafanlbfbfbeoaaM06
import Derived.Test.YtafanlbfbfbeoaaM35
import Derived.Test.YtafanlbfbfbeoaaM30

/- The boundary of a box, told by places along it, to the left around; what a ring counts within it along it. -/
namespace Go.Proofs.Ytafanlbfbfbeoaa

/-- The point of a box's boundary at a place: from its upper left corner down, then to the right, up, back. -/
def bq (x0 y0 w h s : Int) : Int × Int :=
  if s < h then (x0, y0 + h - s) else if s < h + w then (x0 + (s - h), y0) else if s < 2 * h + w then (x0 + w, y0 + (s - h - w)) else (x0 + w - (s - 2 * h - w), y0 + h)

/-- .. and the direction there. -/
def bdq (w h s : Int) : Nat := if s < h then 6 else if s < h + w then 0 else if s < 2 * h + w then 2 else 4

def bpt (x0 y0 w h t : Int) : Int × Int := bq x0 y0 w h (t % (2 * (w + h)))
def bd (w h t : Int) : Nat := bdq w h (t % (2 * (w + h)))

/-- A point of a box, its sides included. -/
def InB (x0 y0 w h : Int) (v : Int × Int) : Prop := (x0 ≤ v.1 ∧ v.1 ≤ x0 + w) ∧ y0 ≤ v.2 ∧ v.2 ≤ y0 + h
/-- .. on its sides. -/
def OnS (x0 y0 w h : Int) (v : Int × Int) : Prop := InB x0 y0 w h v ∧ (v.1 = x0 ∨ v.1 = x0 + w ∨ v.2 = y0 ∨ v.2 = y0 + h)
def CornB (x0 y0 w h : Int) (v : Int × Int) : Prop := (v.1 = x0 ∨ v.1 = x0 + w) ∧ (v.2 = y0 ∨ v.2 = y0 + h)
/-- A step within a box, but not along a side. -/
def MidIn (x0 y0 w h : Int) (s : (Int × Int) × (Int × Int)) : Prop := (2 * x0 < s.1.1 + s.2.1 ∧ s.1.1 + s.2.1 < 2 * (x0 + w)) ∧ 2 * y0 < s.1.2 + s.2.2 ∧ s.1.2 + s.2.2 < 2 * (y0 + h)

theorem mod_step {P t : Int} (hP : 1 < P) : (t + 1) % P = if t % P + 1 = P then 0 else t % P + 1 := by
  have h0 := Int.emod_nonneg t (show P ≠ 0 by omega)
  have h1 := Int.emod_lt_of_pos t (show 0 < P by omega)
  have e : t + 1 = t % P + 1 + P * (t / P) := by have := Int.emod_add_mul_ediv t P; omega
  rw [e, Int.add_mul_emod_self_left]
  split
  · rename_i h; rw [h, Int.emod_self]
  · exact Int.emod_eq_of_lt (by omega) (by omega)

section
variable {x0 y0 w h : Int}

theorem mod_place (hw : 0 < w) (hh : 0 < h) (t : Int) : 0 ≤ t % (2 * (w + h)) ∧ t % (2 * (w + h)) < 2 * (w + h) :=
  ⟨Int.emod_nonneg t (by omega), Int.emod_lt_of_pos t (by omega)⟩

theorem bpt_next (hw : 0 < w) (hh : 0 < h) (t : Int) : bpt x0 y0 w h (t + 1) = toK (bpt x0 y0 w h t) (bd w h t) := by
  have h1 := mod_place hw hh t
  unfold bpt bd
  rw [mod_step (by omega)]
  generalize t % (2 * (w + h)) = s at *
  unfold bq bdq toK
  by_cases a1 : s < h
  · rw [if_pos a1, if_pos a1]
    by_cases a2 : s + 1 < h
    · rw [if_neg (by omega : ¬ s + 1 = 2 * (w + h)), if_pos a2]; refine Prod.ext ?_ ?_ <;> simp [dX, dY]; omega
    · rw [if_neg (by omega : ¬ s + 1 = 2 * (w + h)), if_neg a2, if_pos (by omega)]; refine Prod.ext ?_ ?_ <;> simp [dX, dY] <;> omega
  · rw [if_neg a1, if_neg a1]
    by_cases b1 : s < h + w
    · rw [if_pos b1, if_pos b1]
      by_cases b2 : s + 1 < h + w
      · rw [if_neg (by omega : ¬ s + 1 = 2 * (w + h)), if_neg (by omega), if_pos b2]; refine Prod.ext ?_ ?_ <;> simp [dX, dY]; omega
      · rw [if_neg (by omega : ¬ s + 1 = 2 * (w + h)), if_neg (by omega), if_neg b2, if_pos (by omega)]; refine Prod.ext ?_ ?_ <;> simp [dX, dY] <;> omega
    · rw [if_neg b1, if_neg b1]
      by_cases c1 : s < 2 * h + w
      · rw [if_pos c1, if_pos c1]
        by_cases c2 : s + 1 < 2 * h + w
        · rw [if_neg (by omega : ¬ s + 1 = 2 * (w + h)), if_neg (by omega), if_neg (by omega), if_pos c2]; refine Prod.ext ?_ ?_ <;> simp [dX, dY]; omega
        · rw [if_neg (by omega : ¬ s + 1 = 2 * (w + h)), if_neg (by omega), if_neg (by omega), if_neg c2]; refine Prod.ext ?_ ?_ <;> simp [dX, dY] <;> omega
      · rw [if_neg c1, if_neg c1]
        by_cases d2 : s + 1 = 2 * (w + h)
        · rw [if_pos d2, if_pos hh]; refine Prod.ext ?_ ?_ <;> simp [dX, dY] <;> omega
        · rw [if_neg d2, if_neg (by omega), if_neg (by omega), if_neg (by omega)]; refine Prod.ext ?_ ?_ <;> simp [dX, dY]; omega

theorem bq_inj (hw : 0 < w) (hh : 0 < h) {s s' : Int} (h0 : 0 ≤ s ∧ s < 2 * (w + h)) (h0' : 0 ≤ s' ∧ s' < 2 * (w + h)) (e : bq x0 y0 w h s = bq x0 y0 w h s') : s = s' := by
  unfold bq at e
  (repeat' split at e) <;> (have e1 := congrArg Prod.fst e; have e2 := congrArg Prod.snd e; simp only at e1 e2; omega)

theorem bpt_inj (hw : 0 < w) (hh : 0 < h) {t t' : Int} (e : bpt x0 y0 w h t = bpt x0 y0 w h t') : t % (2 * (w + h)) = t' % (2 * (w + h)) :=
  bq_inj hw hh (mod_place hw hh t) (mod_place hw hh t') e

theorem bpt_mod (t : Int) : bpt x0 y0 w h (t % (2 * (w + h))) = bpt x0 y0 w h t := by unfold bpt; rw [Int.emod_emod]
theorem bd_mod (t : Int) : bd w h (t % (2 * (w + h))) = bd w h t := by unfold bd; rw [Int.emod_emod]

theorem bq_on (hw : 0 < w) (hh : 0 < h) {s : Int} (h0 : 0 ≤ s ∧ s < 2 * (w + h)) : OnS x0 y0 w h (bq x0 y0 w h s) := by
  unfold OnS InB bq
  (repeat' split) <;> dsimp only <;> omega

theorem bpt_on (hw : 0 < w) (hh : 0 < h) (t : Int) : OnS x0 y0 w h (bpt x0 y0 w h t) := bq_on hw hh (mod_place hw hh t)

/-- Every point of the boundary has a place. -/
theorem bq_onto (hw : 0 < w) (hh : 0 < h) {v : Int × Int} (hv : OnS x0 y0 w h v) : ∃ s, 0 ≤ s ∧ s < 2 * (w + h) ∧ bq x0 y0 w h s = v := by
  obtain ⟨a, b⟩ := v
  obtain ⟨⟨⟨h1, h2⟩, h3, h4⟩, hc⟩ := hv
  simp only at h1 h2 h3 h4 hc
  by_cases c1 : a = x0 ∧ b ≠ y0
  · refine ⟨y0 + h - b, by omega, by omega, ?_⟩
    unfold bq; rw [if_pos (by omega)]; refine Prod.ext ?_ ?_ <;> dsimp only <;> omega
  by_cases c2 : b = y0 ∧ a ≠ x0 + w
  · refine ⟨h + (a - x0), by omega, by omega, ?_⟩
    unfold bq; rw [if_neg (by omega), if_pos (by omega)]; refine Prod.ext ?_ ?_ <;> dsimp only <;> omega
  by_cases c3 : a = x0 + w ∧ b ≠ y0 + h
  · refine ⟨h + w + (b - y0), by omega, by omega, ?_⟩
    unfold bq; rw [if_neg (by omega), if_neg (by omega), if_pos (by omega)]; refine Prod.ext ?_ ?_ <;> dsimp only <;> omega
  · refine ⟨2 * h + w + (x0 + w - a), by omega, by omega, ?_⟩
    unfold bq; rw [if_neg (by omega), if_neg (by omega), if_neg (by omega)]; refine Prod.ext ?_ ?_ <;> dsimp only <;> omega

/-- On which side a place lies. -/
theorem bq_side (_hw : 0 < w) (_hh : 0 < h) {s : Int} (h0 : 0 ≤ s ∧ s < 2 * (w + h)) :
    (bdq w h s = 6 ∧ (bq x0 y0 w h s).1 = x0 ∧ y0 < (bq x0 y0 w h s).2 ∧ (bq x0 y0 w h s).2 ≤ y0 + h) ∨ (bdq w h s = 0 ∧ (bq x0 y0 w h s).2 = y0 ∧ x0 ≤ (bq x0 y0 w h s).1 ∧ (bq x0 y0 w h s).1 < x0 + w) ∨
    (bdq w h s = 2 ∧ (bq x0 y0 w h s).1 = x0 + w ∧ y0 ≤ (bq x0 y0 w h s).2 ∧ (bq x0 y0 w h s).2 < y0 + h) ∨ (bdq w h s = 4 ∧ (bq x0 y0 w h s).2 = y0 + h ∧ x0 < (bq x0 y0 w h s).1 ∧ (bq x0 y0 w h s).1 ≤ x0 + w) := by
  unfold bq bdq
  by_cases a1 : s < h
  · left; simp only [if_pos a1]; simp; omega
  by_cases a2 : s < h + w
  · right; left; simp only [if_neg a1, if_pos a2]; simp; omega
  by_cases a3 : s < 2 * h + w
  · right; right; left; simp only [if_neg a1, if_neg a2, if_pos a3]; simp; omega
  · right; right; right; simp only [if_neg a1, if_neg a2, if_neg a3]; simp; omega

theorem bpt_side (hw : 0 < w) (hh : 0 < h) (t : Int) :
    (bd w h t = 6 ∧ (bpt x0 y0 w h t).1 = x0 ∧ y0 < (bpt x0 y0 w h t).2 ∧ (bpt x0 y0 w h t).2 ≤ y0 + h) ∨ (bd w h t = 0 ∧ (bpt x0 y0 w h t).2 = y0 ∧ x0 ≤ (bpt x0 y0 w h t).1 ∧ (bpt x0 y0 w h t).1 < x0 + w) ∨
    (bd w h t = 2 ∧ (bpt x0 y0 w h t).1 = x0 + w ∧ y0 ≤ (bpt x0 y0 w h t).2 ∧ (bpt x0 y0 w h t).2 < y0 + h) ∨ (bd w h t = 4 ∧ (bpt x0 y0 w h t).2 = y0 + h ∧ x0 < (bpt x0 y0 w h t).1 ∧ (bpt x0 y0 w h t).1 ≤ x0 + w) :=
  bq_side hw hh (mod_place hw hh t)

theorem bd_lt (t : Int) : bd w h t < 8 ∧ bd w h t % 2 = 0 := by
  unfold bd bdq
  (repeat' split) <;> simp

/-- From the place before. -/
theorem bpt_prev (hw : 0 < w) (hh : 0 < h) (t : Int) : bpt x0 y0 w h t = toK (bpt x0 y0 w h (t - 1)) (bd w h (t - 1)) := by
  have := bpt_next (x0 := x0) (y0 := y0) hw hh (t - 1)
  rwa [show t - 1 + 1 = t by omega] at this

/-- Off the corners the direction is that of the place before. -/
theorem bd_prev (hw : 0 < w) (hh : 0 < h) (t : Int) : (¬ CornB x0 y0 w h (bpt x0 y0 w h t) ∧ bd w h (t - 1) = bd w h t) ∨ (CornB x0 y0 w h (bpt x0 y0 w h t) ∧ bd w h (t - 1) = (bd w h t + 6) % 8) := by
  have h1 := mod_place hw hh (t - 1)
  have e : t % (2 * (w + h)) = if (t - 1) % (2 * (w + h)) + 1 = 2 * (w + h) then 0 else (t - 1) % (2 * (w + h)) + 1 := by
    have := mod_step (P := 2 * (w + h)) (t := t - 1) (by omega)
    rwa [show t - 1 + 1 = t by omega] at this
  unfold bd bpt
  rw [e]
  generalize (t - 1) % (2 * (w + h)) = s at *
  clear e
  by_cases hs : s + 1 = 2 * (w + h)
  · rw [if_pos hs]
    right
    refine ⟨?_, ?_⟩
    · unfold CornB bq; rw [if_pos hh]; simp
    · unfold bdq; rw [if_neg (by omega), if_neg (by omega), if_neg (by omega), if_pos hh]
  · rw [if_neg hs]
    by_cases c : s + 1 = h ∨ s + 1 = h + w ∨ s + 1 = 2 * h + w
    · right
      rcases c with c | c | c
      · refine ⟨?_, ?_⟩
        · unfold CornB bq; rw [if_neg (by omega), if_pos (by omega)]; dsimp only; omega
        · unfold bdq; rw [if_pos (by omega), if_neg (by omega), if_pos (by omega)]
      · refine ⟨?_, ?_⟩
        · unfold CornB bq; rw [if_neg (by omega), if_neg (by omega), if_pos (by omega)]; dsimp only; omega
        · unfold bdq; rw [if_neg (by omega), if_pos (by omega), if_neg (by omega), if_neg (by omega), if_pos (by omega)]
      · refine ⟨?_, ?_⟩
        · unfold CornB bq; rw [if_neg (by omega), if_neg (by omega), if_neg (by omega)]; dsimp only; omega
        · unfold bdq; rw [if_neg (by omega), if_neg (by omega), if_pos (by omega), if_neg (by omega), if_neg (by omega), if_neg (by omega)]
    · left
      refine ⟨?_, ?_⟩
      · unfold CornB bq; (repeat' split) <;> dsimp only <;> omega
      · unfold bdq; (repeat' split) <;> omega
end

/-- A closed chain counts nothing to its left, above it, below it. -/
theorem far_left {l : List ((Int × Int) × (Int × Int))} (h : RingS l) {M : Int} (hM : ∀ s ∈ l, M ≤ s.1.1 ∧ M ≤ s.2.1) {x y : Int} (hx : x < 4 * M) : wQ x y l = 0 := by
  obtain ⟨⟨P, hc⟩, hu⟩ := h
  have e : wQ x y l = sumQ (fun s => (if 4 * s.2.2 ≤ y then (-1 : Int) else 0) - (if 4 * s.1.2 ≤ y then (-1 : Int) else 0)) l := by
    refine sumQ_congr fun s hs => ?_
    obtain ⟨m1, m2⟩ := hM s hs
    obtain ⟨k, hk, hb⟩ := hu s hs
    obtain ⟨⟨ax, ay⟩, b⟩ := s
    simp only at hb m1 m2
    subst hb
    revert k
    refine eight ?_ ?_ ?_ ?_ ?_ ?_ ?_ ?_ <;> (intro hs m; simp [crQ, toK, dX, dY] at m ⊢; try omega)
  rw [e, chain_sum (fun u => if 4 * u.2 ≤ y then (-1 : Int) else 0) hc]
  omega

theorem far_up {l : List ((Int × Int) × (Int × Int))} {M : Int} (hM : ∀ s ∈ l, s.1.2 ≤ M ∧ s.2.2 ≤ M) {x y : Int} (hy : 4 * M ≤ y) : wQ x y l = 0 :=
  sumQ_zero fun s hs => crQ_none (by have := hM s hs; omega)

theorem far_down {l : List ((Int × Int) × (Int × Int))} {M : Int} (hM : ∀ s ∈ l, M ≤ s.1.2 ∧ M ≤ s.2.2) {x y : Int} (hy : y < 4 * M) : wQ x y l = 0 :=
  sumQ_zero fun s hs => crQ_none (by have := hM s hs; omega)

/-- Beyond the box nothing is counted. -/
theorem beyond_zero {x0 y0 w h : Int} (hw : 0 < w) (hh : 0 < h) {l : List ((Int × Int) × (Int × Int))} (hr : RingS l) (hin : ∀ s ∈ l, InB x0 y0 w h s.1 ∧ InB x0 y0 w h s.2) (t : Int) : oK l (bpt x0 y0 w h t) ((bd w h t + 7) % 8) = 0 := by
  have hs := bpt_side (x0 := x0) (y0 := y0) hw hh t
  generalize bpt x0 y0 w h t = v at *
  unfold oK
  rcases hs with ⟨e, h1, h2, h3⟩ | ⟨e, h1, h2, h3⟩ | ⟨e, h1, h2, h3⟩ | ⟨e, h1, h2, h3⟩ <;> rw [e]
  · exact far_left hr (M := x0) (fun s hs => ⟨(hin s hs).1.1.1, (hin s hs).2.1.1⟩) (by simp [qX]; omega)
  · exact far_down (M := y0) (fun s hs => ⟨(hin s hs).1.2.1, (hin s hs).2.2.1⟩) (by simp [qY]; omega)
  · exact far_right (M := x0 + w) (fun s hs => ⟨(hin s hs).1.1.2, (hin s hs).2.1.2⟩) hr.unit (by simp [qX]; omega)
  · exact far_up (M := y0 + h) (fun s hs => ⟨(hin s hs).1.2.2, (hin s hs).2.2.2⟩) (by simp [qY]; omega)

/-- To the left of an even direction it is the same at its end. -/
theorem oK_geo (l : List ((Int × Int) × (Int × Int))) (v : Int × Int) {k : Nat} (hk : k < 8) (he : k % 2 = 0) : oK l v k = oK l (toK v k) ((k + 3) % 8) := by
  have : k = 0 ∨ k = 2 ∨ k = 4 ∨ k = 6 := by omega
  rcases this with rfl | rfl | rfl | rfl <;> (simp [oK, toK, dX, dY, qX, qY]; congr 1 <;> omega)

/-- .. and between an even direction and the second behind it, as seen from that point. -/
theorem oK_geo2 (l : List ((Int × Int) × (Int × Int))) (v : Int × Int) {k : Nat} (hk : k < 8) (he : k % 2 = 0) : oK l v (k + 1) = oK l (toK v ((k + 2) % 8)) ((k + 6) % 8) := by
  have : k = 0 ∨ k = 2 ∨ k = 4 ∨ k = 6 := by omega
  rcases this with rfl | rfl | rfl | rfl <;> (simp [oK, toK, dX, dY, qX, qY]; congr 1 <;> omega)
end Go.Proofs.Ytafanlbfbfbeoaa

/- Along the boundary of a box, just within it, a simple ring's count grows by one where the ring leaves the box, and falls by one where it comes in. -/
namespace Go.Proofs.Ytafanlbfbfbeoaa

/-- Across a direction. -/
def jumpR (R : List ((Int × Int) × (Int × Int))) (v : Int × Int) (k : Nat) : Int := sumQ (indS v (toK v k)) R - sumQ (indS (toK v k) v) R

theorem jump_zero' {R : List ((Int × Int) × (Int × Int))} {v : Int × Int} {k : Nat} (h1 : (v, toK v k) ∉ R) (h2 : (toK v k, v) ∉ R) : jumpR R v k = 0 := by
  unfold jumpR; rw [ind_none h1, ind_none h2]; rfl

theorem SimpS.jump_out {R : List ((Int × Int) × (Int × Int))} (h : SimpS R) {v : Int × Int} {k : Nat} (h1 : (v, toK v k) ∈ R) : jumpR R v k = 1 := by
  unfold jumpR; rw [ind_once h.starts h1, ind_none (h.no_back h1)]; rfl

theorem SimpS.jump_in {R : List ((Int × Int) × (Int × Int))} (h : SimpS R) {v : Int × Int} {k : Nat} (h1 : (toK v k, v) ∈ R) : jumpR R v k = -1 := by
  unfold jumpR; rw [ind_once h.starts h1, ind_none (h.no_back h1)]; rfl

theorem ring_next {R : List ((Int × Int) × (Int × Int))} (h : RingS R) {s : (Int × Int) × (Int × Int)} (hs : s ∈ R) : ∃ u ∈ R, u.1 = s.2 := by
  obtain ⟨⟨P, hc⟩, -⟩ := h
  have e := chain_ends hc
  have hm : s.2 ∈ R.map Prod.fst ++ [P] := by rw [e]; exact List.mem_cons_of_mem _ (List.mem_map_of_mem hs)
  rcases List.mem_append.1 hm with h | h
  · obtain ⟨u, hu, hu2⟩ := List.mem_map.1 h
    exact ⟨u, hu, hu2⟩
  · have h := List.mem_singleton.1 h
    cases R with
    | nil => cases hs
    | cons a R => exact ⟨a, by simp, hc.1.trans h.symm⟩

theorem ring_prev {R : List ((Int × Int) × (Int × Int))} (h : RingS R) {s : (Int × Int) × (Int × Int)} (hs : s ∈ R) : ∃ u ∈ R, u.2 = s.1 := by
  obtain ⟨⟨P, hc⟩, -⟩ := h
  have e := chain_ends hc
  have hm : s.1 ∈ P :: R.map Prod.snd := by rw [← e]; exact List.mem_append_left _ (List.mem_map_of_mem hs)
  rcases List.mem_cons.1 hm with h | h
  · have hl : R.map Prod.fst ++ [P] ≠ [] := by simp
    have h2 : (P :: R.map Prod.snd).getLast (by simp) = P := by simp only [← e]; simp
    cases R with
    | nil => cases hs
    | cons a R =>
      have h3 : P ∈ (a :: R).map Prod.snd := by
        have := List.getLast_mem (l := (a :: R).map Prod.snd) (by simp)
        rw [List.getLast_cons (by simp)] at h2
        rwa [h2] at this
      obtain ⟨u, hu, hu2⟩ := List.mem_map.1 h3
      exact ⟨u, hu, hu2.trans h.symm⟩
  · obtain ⟨u, hu, hu2⟩ := List.mem_map.1 h
    exact ⟨u, hu, hu2⟩

/-- What is known of a ring and a box: it comes to no corner, runs along no side, and at the boundary it goes through. -/
structure CutR (x0 y0 w h : Int) (R : List ((Int × Int) × (Int × Int))) : Prop where
  hw : 2 ≤ w
  hh : 2 ≤ h
  simp : SimpS R
  mid : ∀ s ∈ R, InB x0 y0 w h s.1 → InB x0 y0 w h s.2 → MidIn x0 y0 w h s
  corner : ∀ s ∈ R, ¬ CornB x0 y0 w h s.1
  cross : ∀ s ∈ R, ∀ u ∈ R, s.2 = u.1 → OnS x0 y0 w h s.2 → InB x0 y0 w h s.1 → ¬ InB x0 y0 w h u.2

section
variable {x0 y0 w h : Int} {R : List ((Int × Int) × (Int × Int))}

/-- The count just within, behind a place. -/
def finR (x0 y0 w h : Int) (R : List ((Int × Int) × (Int × Int))) (t : Int) : Int := oK R (bpt x0 y0 w h t) (bd w h t)

theorem CutR.corner2 (C : CutR x0 y0 w h R) : ∀ s ∈ R, ¬ CornB x0 y0 w h s.2 := fun s hs => by
  obtain ⟨u, hu, e⟩ := ring_next C.simp.toRingS hs
  rw [← e]; exact C.corner u hu

/-- From a place off the corners the ways inward. -/
theorem dir_inner (hw : 2 ≤ w) (hh : 2 ≤ h) (t : Int) (_hc : ¬ CornB x0 y0 w h (bpt x0 y0 w h t)) {q : Nat} (hq : q < 8) (h2 : MidIn x0 y0 w h (bpt x0 y0 w h t, toK (bpt x0 y0 w h t) q)) :
    q = (bd w h t + 1) % 8 ∨ q = (bd w h t + 2) % 8 ∨ q = (bd w h t + 3) % 8 := by
  have hs := bpt_side (x0 := x0) (y0 := y0) (w := w) (h := h) (by omega) (by omega) t
  have hd := dY_bd q hq
  generalize bpt x0 y0 w h t = v at *
  unfold MidIn toK at h2
  simp only at h2
  revert hs h2 hd
  revert q
  rcases bd_lt (w := w) (h := h) t with ⟨hb1, hb2⟩
  have hb : bd w h t = 0 ∨ bd w h t = 2 ∨ bd w h t = 4 ∨ bd w h t = 6 := by omega
  rcases hb with e | e | e | e <;> rw [e]
  all_goals
    refine @(eight ?_ ?_ ?_ ?_ ?_ ?_ ?_ ?_)
    all_goals
      simp [dX, dY]
      try omega

theorem inner_dir (hw : 2 ≤ w) (hh : 2 ≤ h) (t : Int) (hc : ¬ CornB x0 y0 w h (bpt x0 y0 w h t)) {q : Nat} (h2 : q = (bd w h t + 1) % 8 ∨ q = (bd w h t + 2) % 8 ∨ q = (bd w h t + 3) % 8) :
    InB x0 y0 w h (toK (bpt x0 y0 w h t) q) ∧ MidIn x0 y0 w h (bpt x0 y0 w h t, toK (bpt x0 y0 w h t) q) := by
  have hs := bpt_side (x0 := x0) (y0 := y0) (w := w) (h := h) (by omega) (by omega) t
  generalize bpt x0 y0 w h t = v at *
  unfold InB MidIn toK
  unfold CornB at hc
  simp only
  have hb : bd w h t = 0 ∨ bd w h t = 2 ∨ bd w h t = 4 ∨ bd w h t = 6 := by rcases bd_lt (w := w) (h := h) t with ⟨hb1, hb2⟩; omega
  rcases hb with e | e | e | e <;> rw [e] at h2 hs <;> rcases h2 with rfl | rfl | rfl <;> simp [dX, dY] at hs ⊢ <;> omega

/-- Off the corners. -/
theorem CutR.fin_diff (C : CutR x0 y0 w h R) (t : Int) (hc : ¬ CornB x0 y0 w h (bpt x0 y0 w h t)) :
    finR x0 y0 w h R t - finR x0 y0 w h R (t - 1) = -(jumpR R (bpt x0 y0 w h t) ((bd w h t + 1) % 8) + jumpR R (bpt x0 y0 w h t) ((bd w h t + 2) % 8) + jumpR R (bpt x0 y0 w h t) ((bd w h t + 3) % 8)) := by
  have hw := C.hw
  have hh := C.hh
  have hb := bd_lt (w := w) (h := h) t
  have hp : finR x0 y0 w h R (t - 1) = oK R (bpt x0 y0 w h t) ((bd w h t + 3) % 8) := by
    unfold finR
    have hb' := bd_lt (w := w) (h := h) (t - 1)
    rw [oK_geo R _ hb'.1 hb'.2, ← bpt_prev (by omega) (by omega)]
    rcases bd_prev (x0 := x0) (y0 := y0) (w := w) (h := h) (by omega) (by omega) t with ⟨_, e⟩ | ⟨h1, _⟩
    · rw [e]
    · exact absurd h1 hc
  rw [hp]
  unfold finR
  have j1 := jump_ring C.simp.toRingS (bpt x0 y0 w h t) ((bd w h t + 1) % 8) (by omega)
  have j2 := jump_ring C.simp.toRingS (bpt x0 y0 w h t) ((bd w h t + 2) % 8) (by omega)
  have j3 := jump_ring C.simp.toRingS (bpt x0 y0 w h t) ((bd w h t + 3) % 8) (by omega)
  rw [show ((bd w h t + 1) % 8 + 7) % 8 = bd w h t by omega] at j1
  rw [show ((bd w h t + 2) % 8 + 7) % 8 = (bd w h t + 1) % 8 by omega] at j2
  rw [show ((bd w h t + 3) % 8 + 7) % 8 = (bd w h t + 2) % 8 by omega] at j3
  unfold jumpR
  omega

theorem CutR.fin_corner (C : CutR x0 y0 w h R) (t : Int) (hc : CornB x0 y0 w h (bpt x0 y0 w h t)) : finR x0 y0 w h R t = finR x0 y0 w h R (t - 1) := by
  have hw := C.hw
  have hh := C.hh
  have hb := bd_lt (w := w) (h := h) t
  have hp : finR x0 y0 w h R (t - 1) = oK R (bpt x0 y0 w h t) ((bd w h t + 1) % 8) := by
    unfold finR
    have hb' := bd_lt (w := w) (h := h) (t - 1)
    rw [oK_geo R _ hb'.1 hb'.2, ← bpt_prev (by omega) (by omega)]
    rcases bd_prev (x0 := x0) (y0 := y0) (w := w) (h := h) (by omega) (by omega) t with ⟨h1, _⟩ | ⟨_, e⟩
    · exact absurd hc h1
    · rw [e, show ((bd w h t + 6) % 8 + 3) % 8 = (bd w h t + 1) % 8 by omega]
  rw [hp]
  have j1 := jump_ring C.simp.toRingS (bpt x0 y0 w h t) ((bd w h t + 1) % 8) (by omega)
  rw [show ((bd w h t + 1) % 8 + 7) % 8 = bd w h t by omega] at j1
  have hz := jump_zero' (R := R) (v := bpt x0 y0 w h t) (k := (bd w h t + 1) % 8) (fun hm => C.corner _ hm hc) fun hm => C.corner2 _ hm hc
  unfold jumpR at hz
  unfold finR
  omega

/-- Where the ring leaves the box. -/
theorem CutR.fin_end (C : CutR x0 y0 w h R) {t : Int} {s : (Int × Int) × (Int × Int)} (hs : s ∈ R) (h1 : InB x0 y0 w h s.1) (h2 : s.2 = bpt x0 y0 w h t) : finR x0 y0 w h R t = finR x0 y0 w h R (t - 1) + 1 := by
  have hw := C.hw
  have hh := C.hh
  have hon := bpt_on (x0 := x0) (y0 := y0) (w := w) (h := h) (by omega) (by omega) t
  have hc : ¬ CornB x0 y0 w h (bpt x0 y0 w h t) := by rw [← h2]; exact C.corner2 s hs
  have hd := C.fin_diff t hc
  obtain ⟨k, hk, hk2⟩ := C.simp.unit s hs
  obtain ⟨a, b⟩ := s
  simp only at h1 h2 hk2
  obtain ⟨q, hq, hqe⟩ : ∃ q, q < 8 ∧ a = toK b q := ⟨(k + 4) % 8, by omega, by rw [hk2, toK_back a k hk]⟩
  have hmid := C.mid _ hs h1 (by rw [h2]; exact hon.1)
  rw [h2] at hqe hs
  rw [hqe] at hs
  have hqd := dir_inner hw hh t hc hq (by unfold MidIn at hmid ⊢; simp only at hmid ⊢; rw [← hqe, ← h2]; omega)
  have hj := C.simp.jump_in hs
  have ho : ∀ k, k < 8 → k ≠ q → (k = (bd w h t + 1) % 8 ∨ k = (bd w h t + 2) % 8 ∨ k = (bd w h t + 3) % 8) → jumpR R (bpt x0 y0 w h t) k = 0 := fun k hk hne hkd => by
    refine jump_zero' (fun hm => ?_) fun hm => ?_
    · exact C.cross _ hs _ hm rfl hon (by rw [← hqe]; exact h1) (inner_dir hw hh t hc hkd).1
    · have e := nodup_inj C.simp.ends hm hs rfl
      exact hne (toK_inj _ k hk q hq (congrArg Prod.fst e))
  have hb := bd_lt (w := w) (h := h) t
  rcases hqd with e | e | e
  · rw [← e, hj, ho _ (by omega) (by omega) (.inr (.inl rfl)), ho _ (by omega) (by omega) (.inr (.inr rfl))] at hd; omega
  · rw [← e, hj, ho _ (by omega) (by omega) (.inl rfl), ho _ (by omega) (by omega) (.inr (.inr rfl))] at hd; omega
  · rw [← e, hj, ho _ (by omega) (by omega) (.inl rfl), ho _ (by omega) (by omega) (.inr (.inl rfl))] at hd; omega

/-- Where it comes in. -/
theorem CutR.fin_start (C : CutR x0 y0 w h R) {t : Int} {s : (Int × Int) × (Int × Int)} (hs : s ∈ R) (h1 : InB x0 y0 w h s.2) (h2 : s.1 = bpt x0 y0 w h t) : finR x0 y0 w h R t = finR x0 y0 w h R (t - 1) - 1 := by
  have hw := C.hw
  have hh := C.hh
  have hon := bpt_on (x0 := x0) (y0 := y0) (w := w) (h := h) (by omega) (by omega) t
  have hc : ¬ CornB x0 y0 w h (bpt x0 y0 w h t) := by rw [← h2]; exact C.corner s hs
  have hd := C.fin_diff t hc
  obtain ⟨q, hq, hqe⟩ := C.simp.unit s hs
  obtain ⟨a, b⟩ := s
  simp only at h1 h2 hqe
  have hmid := C.mid _ hs (by rw [h2]; exact hon.1) h1
  subst h2
  rw [hqe] at hs h1 hmid
  have hqd := dir_inner hw hh t hc hq hmid
  have hj := C.simp.jump_out hs
  have ho : ∀ k, k < 8 → k ≠ q → (k = (bd w h t + 1) % 8 ∨ k = (bd w h t + 2) % 8 ∨ k = (bd w h t + 3) % 8) → jumpR R (bpt x0 y0 w h t) k = 0 := fun k hk hne hkd => by
    refine jump_zero' (fun hm => ?_) fun hm => ?_
    · have e := nodup_inj C.simp.starts hm hs rfl
      exact hne (toK_inj _ k hk q hq (congrArg Prod.snd e))
    · exact C.cross _ hm _ hs rfl hon (inner_dir hw hh t hc hkd).1 h1
  have hb := bd_lt (w := w) (h := h) t
  rcases hqd with e | e | e
  · rw [← e, hj, ho _ (by omega) (by omega) (.inr (.inl rfl)), ho _ (by omega) (by omega) (.inr (.inr rfl))] at hd; omega
  · rw [← e, hj, ho _ (by omega) (by omega) (.inl rfl), ho _ (by omega) (by omega) (.inr (.inr rfl))] at hd; omega
  · rw [← e, hj, ho _ (by omega) (by omega) (.inl rfl), ho _ (by omega) (by omega) (.inr (.inl rfl))] at hd; omega

/-- Elsewhere it is the same. -/
theorem CutR.fin_none (C : CutR x0 y0 w h R) {t : Int} (hn : ∀ s ∈ R, InB x0 y0 w h s.1 → InB x0 y0 w h s.2 → s.1 ≠ bpt x0 y0 w h t ∧ s.2 ≠ bpt x0 y0 w h t) : finR x0 y0 w h R t = finR x0 y0 w h R (t - 1) := by
  by_cases hc : CornB x0 y0 w h (bpt x0 y0 w h t)
  · exact C.fin_corner t hc
  have hw := C.hw
  have hh := C.hh
  have hon := bpt_on (x0 := x0) (y0 := y0) (w := w) (h := h) (by omega) (by omega) t
  have hd := C.fin_diff t hc
  have ho : ∀ k, (k = (bd w h t + 1) % 8 ∨ k = (bd w h t + 2) % 8 ∨ k = (bd w h t + 3) % 8) → jumpR R (bpt x0 y0 w h t) k = 0 := fun k hkd => by
    have hi := (inner_dir hw hh t hc hkd).1
    exact jump_zero' (fun hm => (hn _ hm hon.1 hi).1 rfl) fun hm => (hn _ hm hi hon.1).2 rfl
  rw [ho _ (.inl rfl), ho _ (.inr (.inl rfl)), ho _ (.inr (.inr rfl))] at hd
  omega
end
end Go.Proofs.Ytafanlbfbfbeoaa

/- The rows of a ring in a box: where they begin and end along the boundary; an end is followed by a beginning. -/
namespace Go.Proofs.Ytafanlbfbfbeoaa

instance (x0 y0 w h : Int) (v : Int × Int) : Decidable (InB x0 y0 w h v) := by unfold InB; infer_instance

/-- The place of a point of the boundary. -/
def posB (x0 y0 w h : Int) (v : Int × Int) : Int :=
  if v.1 = x0 ∧ v.2 ≠ y0 then y0 + h - v.2 else if v.2 = y0 ∧ v.1 ≠ x0 + w then h + (v.1 - x0) else if v.1 = x0 + w ∧ v.2 ≠ y0 + h then h + w + (v.2 - y0) else 2 * h + w + (x0 + w - v.1)

theorem posB_at {x0 y0 w h : Int} (hw : 0 < w) (hh : 0 < h) {v : Int × Int} (hv : OnS x0 y0 w h v) : 0 ≤ posB x0 y0 w h v ∧ posB x0 y0 w h v < 2 * (w + h) ∧ bpt x0 y0 w h (posB x0 y0 w h v) = v := by
  have key : 0 ≤ posB x0 y0 w h v ∧ posB x0 y0 w h v < 2 * (w + h) ∧ bq x0 y0 w h (posB x0 y0 w h v) = v := by
    obtain ⟨a, b⟩ := v
    obtain ⟨⟨⟨h1, h2⟩, h3, h4⟩, hc⟩ := hv
    simp only at h1 h2 h3 h4 hc
    unfold posB
    simp only
    by_cases c1 : a = x0 ∧ b ≠ y0
    · rw [if_pos c1]
      refine ⟨by omega, by omega, ?_⟩
      unfold bq; rw [if_pos (by omega)]; refine Prod.ext ?_ ?_ <;> dsimp only <;> omega
    rw [if_neg c1]
    by_cases c2 : b = y0 ∧ a ≠ x0 + w
    · rw [if_pos c2]
      refine ⟨by omega, by omega, ?_⟩
      unfold bq; rw [if_neg (by omega), if_pos (by omega)]; refine Prod.ext ?_ ?_ <;> dsimp only <;> omega
    rw [if_neg c2]
    by_cases c3 : a = x0 + w ∧ b ≠ y0 + h
    · rw [if_pos c3]
      refine ⟨by omega, by omega, ?_⟩
      unfold bq; rw [if_neg (by omega), if_neg (by omega), if_pos (by omega)]; refine Prod.ext ?_ ?_ <;> dsimp only <;> omega
    · rw [if_neg c3]
      refine ⟨by omega, by omega, ?_⟩
      unfold bq; rw [if_neg (by omega), if_neg (by omega), if_neg (by omega)]; refine Prod.ext ?_ ?_ <;> dsimp only <;> omega
  refine ⟨key.1, key.2.1, ?_⟩
  unfold bpt
  rw [Int.emod_eq_of_lt key.1 key.2.1]
  exact key.2.2

/-- The rows of a ring in a box. -/
structure CutRows (x0 y0 w h : Int) (R : List ((Int × Int) × (Int × Int))) (m : Nat) (S : Nat → List ((Int × Int) × (Int × Int))) (A B : Nat → Int × Int) : Prop where
  cut : CutR x0 y0 w h R
  perm : ((List.range m).flatMap S).Perm (R.filter fun s => decide (InB x0 y0 w h s.1 ∧ InB x0 y0 w h s.2))
  chain : ∀ i, i < m → ChainS (A i) (S i) (B i)
  ne : ∀ i, i < m → S i ≠ []
  onA : ∀ i, i < m → OnS x0 y0 w h (A i)
  onB : ∀ i, i < m → OnS x0 y0 w h (B i)

theorem chain_split : ∀ {a b : List ((Int × Int) × (Int × Int))} {P Q : Int × Int}, ChainS P (a ++ b) Q → ∃ M, ChainS P a M ∧ ChainS M b Q
  | [], _, P, _, h => ⟨P, rfl, h⟩
  | _ :: a, _, _, _, h => by
    obtain ⟨M, h1, h2⟩ := chain_split (a := a) h.2
    exact ⟨M, ⟨h.1, h1⟩, h2⟩

theorem chain_join : ∀ {a b : List ((Int × Int) × (Int × Int))} {P M Q : Int × Int}, ChainS P a M → ChainS M b Q → ChainS P (a ++ b) Q
  | [], _, _, _, _, h1, h2 => by cases h1; exact h2
  | _ :: a, _, _, _, _, h1, h2 => ⟨h1.1, chain_join h1.2 h2⟩

section
variable {x0 y0 w h : Int} {R : List ((Int × Int) × (Int × Int))} {m : Nat} {S : Nat → List ((Int × Int) × (Int × Int))} {A B : Nat → Int × Int}

/-- The steps of the rows are those of the ring that are in the box. -/
theorem CutRows.mem (C : CutRows x0 y0 w h R m S A B) {i : Nat} (hi : i < m) {s : (Int × Int) × (Int × Int)} (hs : s ∈ S i) : s ∈ R ∧ InB x0 y0 w h s.1 ∧ InB x0 y0 w h s.2 := by
  have : s ∈ (List.range m).flatMap S := List.mem_flatMap.2 ⟨i, List.mem_range.2 hi, hs⟩
  have := (C.perm.mem_iff).1 this
  rw [List.mem_filter] at this
  exact ⟨this.1, of_decide_eq_true this.2⟩

theorem CutRows.row (C : CutRows x0 y0 w h R m S A B) {s : (Int × Int) × (Int × Int)} (hs : s ∈ R) (h1 : InB x0 y0 w h s.1) (h2 : InB x0 y0 w h s.2) : ∃ i, i < m ∧ s ∈ S i := by
  have := (C.perm.mem_iff (a := s)).2 (List.mem_filter.2 ⟨hs, decide_eq_true ⟨h1, h2⟩⟩)
  obtain ⟨i, hi, hs⟩ := List.mem_flatMap.1 this
  exact ⟨i, List.mem_range.1 hi, hs⟩

/-- The first step of a row. -/
theorem CutRows.first (C : CutRows x0 y0 w h R m S A B) {i : Nat} (hi : i < m) : ∃ s ∈ S i, s.1 = A i := by
  have hc := C.chain i hi
  have hn := C.ne i hi
  cases hS : S i with
  | nil => exact absurd hS hn
  | cons s l => rw [hS] at hc; exact ⟨s, by simp, hc.1⟩

/-- The last one. -/
theorem CutRows.last (C : CutRows x0 y0 w h R m S A B) {i : Nat} (hi : i < m) : ∃ s ∈ S i, s.2 = B i := by
  have hc := C.chain i hi
  have hn := C.ne i hi
  obtain ⟨l, s, hS⟩ : ∃ l s, S i = l ++ [s] := ⟨_, _, (List.dropLast_concat_getLast hn).symm⟩
  rw [hS] at hc
  obtain ⟨M, _, h2⟩ := chain_split hc
  exact ⟨s, by rw [hS]; simp, h2.2⟩

/-- On the boundary only beginnings are begun .. -/
theorem CutRows.beg (C : CutRows x0 y0 w h R m S A B) {i : Nat} (hi : i < m) {s : (Int × Int) × (Int × Int)} (hs : s ∈ S i) (hon : OnS x0 y0 w h s.1) : s.1 = A i := by
  obtain ⟨a, b, hS⟩ := List.append_of_mem hs
  have hc := C.chain i hi
  rcases List.eq_nil_or_concat a with e | ⟨a', s', e⟩
  · subst e; rw [hS] at hc; exact hc.1
  · rw [List.concat_eq_append] at e
    subst e
    exfalso
    rw [hS, List.append_assoc] at hc
    have e := chain_next (s := s') (t := s) hc
    have m1 := C.mem hi (s := s') (by rw [hS]; simp)
    have m2 := C.mem hi hs
    exact C.cut.cross s' m1.1 s m2.1 e.symm (by rw [← e]; exact hon) m1.2.1 m2.2.2

/-- .. and only ends are ended. -/
theorem CutRows.fin (C : CutRows x0 y0 w h R m S A B) {i : Nat} (hi : i < m) {s : (Int × Int) × (Int × Int)} (hs : s ∈ S i) (hon : OnS x0 y0 w h s.2) : s.2 = B i := by
  obtain ⟨a, b, hS⟩ := List.append_of_mem hs
  have hc := C.chain i hi
  cases b with
  | nil =>
    rw [hS] at hc
    obtain ⟨M, _, h2⟩ := chain_split hc
    exact h2.2
  | cons u b =>
    exfalso
    rw [hS] at hc
    have e := chain_next hc
    have m1 := C.mem hi hs
    have m2 := C.mem hi (s := u) (by rw [hS]; simp)
    exact C.cut.cross s m1.1 u m2.1 e.symm hon m1.2.1 m2.2.2

theorem CutRows.rows_nodup (C : CutRows x0 y0 w h R m S A B) : (((List.range m).flatMap S).map Prod.fst).Nodup ∧ (((List.range m).flatMap S).map midS).Nodup := by
  have e := C.cut.simp.starts
  have e' := C.cut.simp.mids
  constructor
  · rw [(C.perm.map Prod.fst).nodup_iff]
    exact e.sublist ((List.filter_sublist).map _)
  · rw [(C.perm.map midS).nodup_iff]
    exact e'.sublist ((List.filter_sublist).map _)

theorem flat_disj {α β : Type} {f : α → List β} : ∀ {l : List α}, (l.flatMap f).Nodup → ∀ {i j : α} {s : β}, i ∈ l → j ∈ l → s ∈ f i → s ∈ f j → i = j
  | [], _, _, _, _, h, _, _, _ => by cases h
  | a :: l, hn, i, j, s, hi, hj, hsi, hsj => by
    rw [List.flatMap_cons, List.nodup_append] at hn
    rcases List.mem_cons.1 hi with rfl | hi' <;> rcases List.mem_cons.1 hj with rfl | hj'
    · rfl
    · exact absurd rfl (hn.2.2 s hsi s (List.mem_flatMap.2 ⟨j, hj', hsj⟩))
    · exact absurd rfl (hn.2.2 s hsj s (List.mem_flatMap.2 ⟨i, hi', hsi⟩))
    · exact flat_disj hn.2.1 hi' hj' hsi hsj

/-- A step belongs to one row. -/
theorem CutRows.one_row (C : CutRows x0 y0 w h R m S A B) {i j : Nat} (hi : i < m) (hj : j < m) {s : (Int × Int) × (Int × Int)} (hs : s ∈ S i) (hs' : s ∈ S j) : i = j := by
  have hn : ((List.range m).flatMap S).Nodup := by
    have := C.rows_nodup.1
    exact List.Pairwise.of_map _ (fun a b h e => h (congrArg _ e)) this
  exact flat_disj hn (List.mem_range.2 hi) (List.mem_range.2 hj) hs hs'

theorem CutRows.A_inj (C : CutRows x0 y0 w h R m S A B) {i j : Nat} (hi : i < m) (hj : j < m) (e : A i = A j) : i = j := by
  obtain ⟨s, hs, h1⟩ := C.first hi
  obtain ⟨u, hu, h2⟩ := C.first hj
  have : s = u := nodup_inj C.cut.simp.starts (C.mem hi hs).1 (C.mem hj hu).1 (by rw [h1, h2, e])
  subst this
  exact C.one_row hi hj hs hu

theorem CutRows.B_inj (C : CutRows x0 y0 w h R m S A B) {i j : Nat} (hi : i < m) (hj : j < m) (e : B i = B j) : i = j := by
  obtain ⟨s, hs, h1⟩ := C.last hi
  obtain ⟨u, hu, h2⟩ := C.last hj
  have : s = u := nodup_inj C.cut.simp.ends (C.mem hi hs).1 (C.mem hj hu).1 (by rw [h1, h2, e])
  subst this
  exact C.one_row hi hj hs hu

theorem CutRows.A_ne_B (C : CutRows x0 y0 w h R m S A B) {i j : Nat} (hi : i < m) (hj : j < m) : A i ≠ B j := fun e => by
  obtain ⟨s, hs, h1⟩ := C.first hi
  obtain ⟨u, hu, h2⟩ := C.last hj
  have m1 := C.mem hi hs
  have m2 := C.mem hj hu
  exact C.cut.cross u m2.1 s m1.1 (by rw [h1, h2, e]) (by rw [h2]; exact C.onB j hj) m2.2.1 m1.2.2

/-- The points at which rows begin or end. -/
def endA (A B : Nat → Int × Int) (e : Nat) : Int × Int := if e % 2 = 0 then A (e / 2) else B (e / 2)

theorem CutRows.end_on (C : CutRows x0 y0 w h R m S A B) {e : Nat} (he : e < 2 * m) : OnS x0 y0 w h (endA A B e) := by
  unfold endA
  split
  · exact C.onA _ (by omega)
  · exact C.onB _ (by omega)

theorem CutRows.end_inj (C : CutRows x0 y0 w h R m S A B) {e e' : Nat} (he : e < 2 * m) (he' : e' < 2 * m) (hq : endA A B e = endA A B e') : e = e' := by
  unfold endA at hq
  split at hq <;> split at hq
  · have := C.A_inj (by omega) (by omega) hq; omega
  · exact absurd hq (C.A_ne_B (by omega) (by omega))
  · exact absurd hq.symm (C.A_ne_B (by omega) (by omega))
  · have := C.B_inj (by omega) (by omega) hq; omega

/-- Between them nothing turns. -/
theorem CutRows.fin_between (C : CutRows x0 y0 w h R m S A B) {t : Int} (hn : ∀ e, e < 2 * m → endA A B e ≠ bpt x0 y0 w h t) : finR x0 y0 w h R t = finR x0 y0 w h R (t - 1) := by
  have hw := C.cut.hw
  have hh := C.cut.hh
  refine C.cut.fin_none fun s hs h1 h2 => ?_
  obtain ⟨i, hi, hsi⟩ := C.row hs h1 h2
  have hon := bpt_on (x0 := x0) (y0 := y0) (w := w) (h := h) (by omega) (by omega) t
  constructor
  · intro e
    have := C.beg hi hsi (by rw [e]; exact hon)
    refine hn (2 * i) (by omega) ?_
    unfold endA
    rw [if_pos (by omega), show 2 * i / 2 = i by omega, ← this, e]
  · intro e
    have := C.fin hi hsi (by rw [e]; exact hon)
    refine hn (2 * i + 1) (by omega) ?_
    unfold endA
    rw [if_neg (by omega), show (2 * i + 1) / 2 = i by omega, ← this, e]

theorem CutRows.fin_B (C : CutRows x0 y0 w h R m S A B) {i : Nat} (hi : i < m) {t : Int} (ht : bpt x0 y0 w h t = B i) : finR x0 y0 w h R t = finR x0 y0 w h R (t - 1) + 1 := by
  obtain ⟨s, hs, h2⟩ := C.last hi
  have m1 := C.mem hi hs
  exact C.cut.fin_end m1.1 m1.2.1 (h2.trans ht.symm)

theorem CutRows.fin_A (C : CutRows x0 y0 w h R m S A B) {i : Nat} (hi : i < m) {t : Int} (ht : bpt x0 y0 w h t = A i) : finR x0 y0 w h R t = finR x0 y0 w h R (t - 1) - 1 := by
  obtain ⟨s, hs, h2⟩ := C.first hi
  have m1 := C.mem hi hs
  exact C.cut.fin_start m1.1 m1.2.2 (h2.trans ht.symm)

/-- A ring that has a row counts c or c - 1. -/
theorem CutRows.two_counts (C : CutRows x0 y0 w h R m S A B) (hm : 0 < m) : ∃ c : Int, (c = 0 ∨ c = 1) ∧ (∀ t ∈ R, SideC R c t) ∧ ∀ v k, k < 8 → oK R v k = c ∨ oK R v k = c - 1 := by
  refine C.cut.simp.jordan ?_
  obtain ⟨s, hs, _⟩ := C.first hm
  have := (C.mem hm hs).1
  intro e
  rw [e] at this
  cases this

/-- To the left around, from an end: the next is a beginning. -/
theorem CutRows.next_left (C : CutRows x0 y0 w h R m S A B) {c : Int} (hc : ∀ v k, k < 8 → oK R v k = c ∨ oK R v k = c - 1) {i : Nat} (hi : i < m) {t : Int} (ht : bpt x0 y0 w h t = B i) {n : Nat} (hn : 0 < n)
    (hno : ∀ j : Nat, 0 < j → j < n → ∀ e, e < 2 * m → endA A B e ≠ bpt x0 y0 w h (t + j)) {e : Nat} (he : e < 2 * m) (hq : endA A B e = bpt x0 y0 w h (t + n)) : e % 2 = 0 := by
  have hf : ∀ t, finR x0 y0 w h R t = c ∨ finR x0 y0 w h R t = c - 1 := fun t => hc _ _ (bd_lt t).1
  have h0 : finR x0 y0 w h R t = c := by
    have := C.fin_B hi ht
    have h1 := hf t
    have h2 := hf (t - 1)
    omega
  have hk : ∀ j : Nat, j < n → finR x0 y0 w h R (t + j) = c := by
    intro j
    induction j with
    | zero => intro _; simpa using h0
    | succ j ih =>
      intro hj
      have := C.fin_between (t := t + (j + 1 : Nat)) (hno (j + 1) (by omega) hj)
      rw [this, show t + ((j + 1 : Nat) : Int) - 1 = t + j by omega]
      exact ih (by omega)
  have hl := hk (n - 1) (by omega)
  rw [show t + ((n - 1 : Nat) : Int) = t + n - 1 by omega] at hl
  rcases Nat.mod_two_eq_zero_or_one e with h | h
  · exact h
  · exfalso
    unfold endA at hq
    rw [if_neg (by omega)] at hq
    have h1 := C.fin_B (i := e / 2) (by omega) hq.symm
    have h2 := hf (t + n)
    omega

/-- To the right around. -/
theorem CutRows.next_right (C : CutRows x0 y0 w h R m S A B) {c : Int} (hc : ∀ v k, k < 8 → oK R v k = c ∨ oK R v k = c - 1) {i : Nat} (hi : i < m) {t : Int} (ht : bpt x0 y0 w h t = B i) {n : Nat} (hn : 0 < n)
    (hno : ∀ j : Nat, 0 < j → j < n → ∀ e, e < 2 * m → endA A B e ≠ bpt x0 y0 w h (t - j)) {e : Nat} (he : e < 2 * m) (hq : endA A B e = bpt x0 y0 w h (t - n)) : e % 2 = 0 := by
  have hf : ∀ t, finR x0 y0 w h R t = c ∨ finR x0 y0 w h R t = c - 1 := fun t => hc _ _ (bd_lt t).1
  have h0 : finR x0 y0 w h R (t - 1) = c - 1 := by
    have := C.fin_B hi ht
    have h1 := hf t
    have h2 := hf (t - 1)
    omega
  have hk : ∀ j : Nat, j < n → finR x0 y0 w h R (t - j - 1) = c - 1 := by
    intro j
    induction j with
    | zero => intro _; simpa using h0
    | succ j ih =>
      intro hj
      have := C.fin_between (t := t - (j + 1 : Nat)) (hno (j + 1) (by omega) hj)
      rw [← this, show t - ((j + 1 : Nat) : Int) = t - j - 1 by omega]
      exact ih (by omega)
  have hl := hk (n - 1) (by omega)
  rw [show t - ((n - 1 : Nat) : Int) - 1 = t - n by omega] at hl
  rcases Nat.mod_two_eq_zero_or_one e with h | h
  · exact h
  · exfalso
    unfold endA at hq
    rw [if_neg (by omega)] at hq
    have h1 := C.fin_B (i := e / 2) (by omega) hq.symm
    have h2 := hf (t - n - 1)
    omega
end
end Go.Proofs.Ytafanlbfbfbeoaa

/- Rows, and the pieces of the boundary between an end and the next beginning: a simple ring each. -/
namespace Go.Proofs.Ytafanlbfbfbeoaa

/-- A piece of the boundary, from a place on, one way or the other. -/
def arcS (x0 y0 w h o t : Int) (n : Nat) : List ((Int × Int) × (Int × Int)) := (List.range n).map fun j : Nat => (bpt x0 y0 w h (t + o * (j : Int)), bpt x0 y0 w h (t + o * ((j : Int) + 1)))

section
variable {x0 y0 w h o : Int}

theorem arc_succ (t : Int) (n : Nat) : arcS x0 y0 w h o t (n + 1) = arcS x0 y0 w h o t n ++ [(bpt x0 y0 w h (t + o * (n : Int)), bpt x0 y0 w h (t + o * ((n : Int) + 1)))] := by
  unfold arcS
  rw [List.range_succ, List.map_append]
  rfl

theorem arc_chain (t : Int) : ∀ n : Nat, ChainS (bpt x0 y0 w h t) (arcS x0 y0 w h o t n) (bpt x0 y0 w h (t + o * (n : Int)))
  | 0 => by
    show bpt x0 y0 w h t = _
    simp
  | n + 1 => by
    rw [arc_succ]
    refine chain_join (arc_chain t n) ⟨rfl, ?_⟩
    show bpt x0 y0 w h _ = _
    rw [show ((n + 1 : Nat) : Int) = (n : Int) + 1 by omega]

/-- The step from a place on, one way or the other. -/
theorem bstep_unit (hw : 0 < w) (hh : 0 < h) (ho : o = 1 ∨ o = -1) (s : Int) : UnitS (bpt x0 y0 w h s, bpt x0 y0 w h (s + o)) := by
  rcases ho with rfl | rfl
  · exact ⟨_, (bd_lt s).1, bpt_next hw hh s⟩
  · have h1 := bpt_prev (x0 := x0) (y0 := y0) (w := w) (h := h) hw hh s
    refine ⟨(bd w h (s - 1) + 4) % 8, by omega, ?_⟩
    show bpt x0 y0 w h (s + -1) = _
    rw [h1, toK_back _ _ (bd_lt _).1]
    rfl

theorem arc_mem {t : Int} {n : Nat} {s : (Int × Int) × (Int × Int)} (hs : s ∈ arcS x0 y0 w h o t n) : ∃ j : Nat, j < n ∧ s = (bpt x0 y0 w h (t + o * j), bpt x0 y0 w h (t + o * j + o)) := by
  obtain ⟨j, hj, rfl⟩ := List.mem_map.1 hs
  refine ⟨j, List.mem_range.1 hj, ?_⟩
  rw [show t + o * ((j : Int) + 1) = t + o * j + o by rw [Int.mul_add]; omega]

/-- The middle of a step of the boundary. -/
theorem bmid_inj (hw : 0 < w) (hh : 0 < h) {t t' : Int} (e : midS (bpt x0 y0 w h t, bpt x0 y0 w h (t + 1)) = midS (bpt x0 y0 w h t', bpt x0 y0 w h (t' + 1))) : bpt x0 y0 w h t = bpt x0 y0 w h t' := by
  rw [bpt_next hw hh, bpt_next hw hh] at e
  have h1 := bpt_side (x0 := x0) (y0 := y0) hw hh t
  have h2 := bpt_side (x0 := x0) (y0 := y0) hw hh t'
  generalize bpt x0 y0 w h t = v at *
  generalize bpt x0 y0 w h t' = v' at *
  have e1 := congrArg Prod.fst e
  have e2 := congrArg Prod.snd e
  clear e
  obtain ⟨a, b⟩ := v
  obtain ⟨a', b'⟩ := v'
  rcases h1 with ⟨d, h1⟩ | ⟨d, h1⟩ | ⟨d, h1⟩ | ⟨d, h1⟩ <;> rcases h2 with ⟨d', h2⟩ | ⟨d', h2⟩ | ⟨d', h2⟩ | ⟨d', h2⟩ <;> rw [d, d'] at e1 e2 <;> simp [midS, toK, dX, dY] at e1 e2 h1 h2 ⊢ <;> omega

theorem bmid_not (hw : 0 < w) (hh : 0 < h) {t : Int} {s : (Int × Int) × (Int × Int)} (hs : MidIn x0 y0 w h s) : midS s ≠ midS (bpt x0 y0 w h t, bpt x0 y0 w h (t + 1)) := by
  intro e
  rw [bpt_next hw hh] at e
  have h1 := bpt_side (x0 := x0) (y0 := y0) hw hh t
  generalize bpt x0 y0 w h t = v at *
  have e1 := congrArg Prod.fst e
  have e2 := congrArg Prod.snd e
  clear e
  unfold MidIn at hs
  rcases h1 with ⟨d, h1⟩ | ⟨d, h1⟩ | ⟨d, h1⟩ | ⟨d, h1⟩ <;> rw [d] at e1 e2 <;> simp [midS, toK, dX, dY] at e1 e2 <;> omega

/-- .. and one way or the other. -/
theorem bmid_way (ho : o = 1 ∨ o = -1) (s : Int) : midS (bpt x0 y0 w h s, bpt x0 y0 w h (s + o)) = midS (bpt x0 y0 w h (if o = 1 then s else s - 1), bpt x0 y0 w h ((if o = 1 then s else s - 1) + 1)) := by
  rcases ho with rfl | rfl
  · rfl
  · rw [if_neg (by decide)]
    rw [show s - 1 + 1 = s by omega, show s + -1 = s - 1 by omega]
    unfold midS
    refine Prod.ext ?_ ?_ <;> simp only <;> omega

theorem bpt_add (hw : 0 < w) (hh : 0 < h) {t t' : Int} (e : bpt x0 y0 w h t = bpt x0 y0 w h t') (s : Int) : bpt x0 y0 w h (t + s) = bpt x0 y0 w h (t' + s) := by
  have := bpt_inj hw hh e
  have h2 : (t + s) % (2 * (w + h)) = (t' + s) % (2 * (w + h)) := (Int.emod_add_cancel_right s).2 this
  unfold bpt
  rw [h2]

theorem bstep_way (hw : 0 < w) (hh : 0 < h) (ho : o = 1 ∨ o = -1) {s s' : Int} (e : midS (bpt x0 y0 w h s, bpt x0 y0 w h (s + o)) = midS (bpt x0 y0 w h s', bpt x0 y0 w h (s' + o))) : bpt x0 y0 w h s = bpt x0 y0 w h s' := by
  rw [bmid_way ho s, bmid_way ho s'] at e
  have h1 := bmid_inj hw hh e
  rcases ho with rfl | rfl
  · exact h1
  · rw [if_neg (by decide), if_neg (by decide)] at h1
    have := bpt_add hw hh h1 1
    rwa [show s - 1 + 1 = s by omega, show s' - 1 + 1 = s' by omega] at this
end

/-- What follows on each end. -/
structure ArcsOk (x0 y0 w h : Int) (m : Nat) (A B : Nat → Int × Int) (o : Int) (nx len : Nat → Nat) : Prop where
  ho : o = 1 ∨ o = -1
  lt : ∀ i, i < m → nx i < m
  pos : ∀ i, i < m → 0 < len i
  fin : ∀ i, i < m → bpt x0 y0 w h (posB x0 y0 w h (B i) + o * (len i : Int)) = A (nx i)
  no : ∀ i, i < m → ∀ j : Nat, 0 < j → j < len i → ∀ e, e < 2 * m → endA A B e ≠ bpt x0 y0 w h (posB x0 y0 w h (B i) + o * j)

/-- A row, and the piece behind it. -/
def rowArc (x0 y0 w h o : Int) (S : Nat → List ((Int × Int) × (Int × Int))) (B : Nat → Int × Int) (len : Nat → Nat) (i : Nat) : List ((Int × Int) × (Int × Int)) := S i ++ arcS x0 y0 w h o (posB x0 y0 w h (B i)) (len i)

/-- Numbers each of which is what follows on the one before. -/
def ChainN (nx : Nat → Nat) : Nat → List Nat → Nat → Prop
  | i, [], j => i = j
  | i, a :: l, j => a = i ∧ ChainN nx (nx a) l j

/-- Steps without a start or a middle in common. -/
def AptS (s u : (Int × Int) × (Int × Int)) : Prop := s.1 ≠ u.1 ∧ midS s ≠ midS u
theorem AptS.symm {s u : (Int × Int) × (Int × Int)} (h : AptS s u) : AptS u s := ⟨h.1.symm, h.2.symm⟩

theorem apt_nodup {l : List ((Int × Int) × (Int × Int))} (h : l.Pairwise AptS) : (l.map Prod.fst).Nodup ∧ (l.map midS).Nodup :=
  ⟨List.pairwise_map.2 (h.imp fun h => h.1), List.pairwise_map.2 (h.imp fun h => h.2)⟩

theorem nodup_apt {l : List ((Int × Int) × (Int × Int))} (h1 : (l.map Prod.fst).Nodup) (h2 : (l.map midS).Nodup) : l.Pairwise AptS :=
  (List.pairwise_map.1 h1).and (List.pairwise_map.1 h2)

theorem range_pair {P : Nat → Nat → Prop} (hs : ∀ i j, P i j → P j i) {m : Nat} (h : (List.range m).Pairwise P) {i j : Nat} (hi : i < m) (hj : j < m) (hij : i ≠ j) : P i j := by
  rw [List.pairwise_iff_getElem] at h
  rcases Nat.lt_or_gt_of_ne hij with hl | hl
  · have := h i j (by simpa using hi) (by simpa using hj) hl
    simpa using this
  · have := h j i (by simpa using hj) (by simpa using hi) hl
    exact hs _ _ (by simpa using this)

section
variable {x0 y0 w h o : Int} {R : List ((Int × Int) × (Int × Int))} {m : Nat} {S : Nat → List ((Int × Int) × (Int × Int))} {A B : Nat → Int × Int} {nx len : Nat → Nat}

theorem CutRows.wide (C : CutRows x0 y0 w h R m S A B) : 0 < w ∧ 0 < h := by have := C.cut.hw; have := C.cut.hh; omega

theorem CutRows.placeB (C : CutRows x0 y0 w h R m S A B) {i : Nat} (hi : i < m) : bpt x0 y0 w h (posB x0 y0 w h (B i)) = B i := (posB_at C.wide.1 C.wide.2 (C.onB i hi)).2.2

theorem CutRows.rows_apt (C : CutRows x0 y0 w h R m S A B) : (∀ i, i < m → (S i).Pairwise AptS) ∧ ∀ i j, i < m → j < m → i ≠ j → ∀ s ∈ S i, ∀ u ∈ S j, AptS s u := by
  obtain ⟨h1, h2⟩ := C.rows_nodup
  have h3 := nodup_apt h1 h2
  rw [List.pairwise_flatMap] at h3
  refine ⟨fun i hi => h3.1 i (List.mem_range.2 hi), fun i j hi hj hij => ?_⟩
  exact range_pair (P := fun i j => ∀ s ∈ S i, ∀ u ∈ S j, AptS s u) (fun i j hp s hs u hu => (hp u hu s hs).symm) h3.2 hi hj hij

/-- The places of the pieces are met once. -/
theorem arcs_inj (C : CutRows x0 y0 w h R m S A B) (K : ArcsOk x0 y0 w h m A B o nx len) {i i' : Nat} (hi : i < m) (hi' : i' < m) {j j' : Nat} (hj : j < len i) (hj' : j' < len i')
    (e : bpt x0 y0 w h (posB x0 y0 w h (B i) + o * j) = bpt x0 y0 w h (posB x0 y0 w h (B i') + o * j')) : i = i' ∧ j = j' := by
  obtain ⟨hw, hh⟩ := C.wide
  have key : ∀ (i i' : Nat), i < m → i' < m → ∀ (j j' : Nat), j < len i → j' ≤ j → bpt x0 y0 w h (posB x0 y0 w h (B i) + o * j) = bpt x0 y0 w h (posB x0 y0 w h (B i') + o * j') → i = i' ∧ j = j' := by
    intro i i' hi hi' j j' hj hle e
    have e2 := bpt_add hw hh e (-(o * j'))
    rw [show posB x0 y0 w h (B i') + o * (j' : Int) + -(o * (j' : Int)) = posB x0 y0 w h (B i') by omega, C.placeB hi',
      show posB x0 y0 w h (B i) + o * (j : Int) + -(o * (j' : Int)) = posB x0 y0 w h (B i) + o * ((j - j' : Nat) : Int) by
        rw [show ((j - j' : Nat) : Int) = (j : Int) - j' by omega, Int.mul_sub]; omega] at e2
    by_cases hz : j = j'
    · subst hz
      rw [show ((j - j : Nat) : Int) = 0 by omega, Int.mul_zero, Int.add_zero, C.placeB hi] at e2
      exact ⟨C.B_inj hi hi' e2, rfl⟩
    · exfalso
      refine K.no i hi (j - j') (by omega) (by omega) (2 * i' + 1) (by omega) ?_
      unfold endA
      rw [if_neg (by omega), show (2 * i' + 1) / 2 = i' by omega]
      exact e2.symm
  rcases Nat.le_total j' j with hle | hle
  · exact key i i' hi hi' j j' hj hle e
  · obtain ⟨h1, h2⟩ := key i' i hi' hi j' j hj' hle e.symm
    exact ⟨h1.symm, h2.symm⟩

theorem arcs_apt (C : CutRows x0 y0 w h R m S A B) (K : ArcsOk x0 y0 w h m A B o nx len) : (∀ i, i < m → (arcS x0 y0 w h o (posB x0 y0 w h (B i)) (len i)).Pairwise AptS) ∧
    ∀ i j, i < m → j < m → i ≠ j → ∀ s ∈ arcS x0 y0 w h o (posB x0 y0 w h (B i)) (len i), ∀ u ∈ arcS x0 y0 w h o (posB x0 y0 w h (B j)) (len j), AptS s u := by
  obtain ⟨hw, hh⟩ := C.wide
  constructor
  · intro i hi
    unfold arcS
    rw [List.pairwise_map, List.pairwise_iff_getElem]
    intro a b ha hb hab
    simp only [List.length_range] at ha hb
    simp only [List.getElem_range]
    have e : ∀ j : Nat, posB x0 y0 w h (B i) + o * ((j : Int) + 1) = posB x0 y0 w h (B i) + o * j + o := fun j => by rw [Int.mul_add]; omega
    rw [e, e]
    constructor
    · intro hq
      have := (arcs_inj C K hi hi ha hb hq).2
      omega
    · intro hq
      have := (arcs_inj C K hi hi ha hb (bstep_way hw hh K.ho hq)).2
      omega
  · intro i j hi hj hij s hs u hu
    obtain ⟨a, ha, rfl⟩ := arc_mem hs
    obtain ⟨b, hb, rfl⟩ := arc_mem hu
    exact ⟨fun hq => hij (arcs_inj C K hi hj ha hb hq).1, fun hq => hij (arcs_inj C K hi hj ha hb (bstep_way hw hh K.ho hq)).1⟩

theorem row_arc_apt (C : CutRows x0 y0 w h R m S A B) (K : ArcsOk x0 y0 w h m A B o nx len) {i j : Nat} (hi : i < m) (hj : j < m) {s u : (Int × Int) × (Int × Int)} (hs : s ∈ S i) (hu : u ∈ arcS x0 y0 w h o (posB x0 y0 w h (B j)) (len j)) : AptS s u := by
  obtain ⟨hw, hh⟩ := C.wide
  obtain ⟨a, ha, rfl⟩ := arc_mem hu
  obtain ⟨m1, m2, m3⟩ := C.mem hi hs
  constructor
  · intro e
    have hA := C.beg hi hs (by rw [e]; exact bpt_on hw hh _)
    by_cases hz : a = 0
    · subst hz
      simp only [Int.natCast_zero, Int.mul_zero, Int.add_zero, C.placeB hj] at e
      exact C.A_ne_B hi hj (hA.symm.trans e)
    · refine K.no j hj a (by omega) ha (2 * i) (by omega) ?_
      unfold endA
      rw [if_pos (by omega), show 2 * i / 2 = i by omega, ← hA]
      exact e
  · rw [bmid_way K.ho]
    exact bmid_not hw hh (C.cut.mid s m1 m2 m3)

/-- Rows and pieces of several numbers. -/
theorem union_apt (C : CutRows x0 y0 w h R m S A B) (K : ArcsOk x0 y0 w h m A B o nx len) {L : List Nat} (hn : L.Nodup) (hl : ∀ i ∈ L, i < m) : (L.flatMap (rowArc x0 y0 w h o S B len)).Pairwise AptS := by
  rw [List.pairwise_flatMap]
  obtain ⟨r1, r2⟩ := C.rows_apt
  obtain ⟨a1, a2⟩ := arcs_apt C K
  constructor
  · intro i hi
    unfold rowArc
    rw [List.pairwise_append]
    exact ⟨r1 i (hl i hi), a1 i (hl i hi), fun s hs u hu => row_arc_apt C K (hl i hi) (hl i hi) hs hu⟩
  · refine List.Pairwise.imp_of_mem ?_ hn
    intro i j hi hj hij s hs u hu
    unfold rowArc at hs hu
    rcases List.mem_append.1 hs with hs | hs <;> rcases List.mem_append.1 hu with hu | hu
    · exact r2 i j (hl i hi) (hl j hj) hij s hs u hu
    · exact row_arc_apt C K (hl i hi) (hl j hj) hs hu
    · exact (row_arc_apt C K (hl j hj) (hl i hi) hu hs).symm
    · exact a2 i j (hl i hi) (hl j hj) hij s hs u hu

theorem rowArc_in (C : CutRows x0 y0 w h R m S A B) (K : ArcsOk x0 y0 w h m A B o nx len) {i : Nat} (hi : i < m) {s : (Int × Int) × (Int × Int)} (hs : s ∈ rowArc x0 y0 w h o S B len i) : (InB x0 y0 w h s.1 ∧ InB x0 y0 w h s.2) ∧ UnitS s := by
  obtain ⟨hw, hh⟩ := C.wide
  rcases List.mem_append.1 hs with hs | hs
  · obtain ⟨m1, m2, m3⟩ := C.mem hi hs
    exact ⟨⟨m2, m3⟩, C.cut.simp.unit s m1⟩
  · obtain ⟨a, ha, rfl⟩ := arc_mem hs
    exact ⟨⟨(bpt_on hw hh _).1, (bpt_on hw hh _).1⟩, bstep_unit hw hh K.ho _⟩

theorem rowArc_chain (C : CutRows x0 y0 w h R m S A B) (K : ArcsOk x0 y0 w h m A B o nx len) {i : Nat} (hi : i < m) : ChainS (A i) (rowArc x0 y0 w h o S B len i) (A (nx i)) := by
  refine chain_join (C.chain i hi) ?_
  have := arc_chain (x0 := x0) (y0 := y0) (w := w) (h := h) (o := o) (posB x0 y0 w h (B i)) (len i)
  rw [K.fin i hi, C.placeB hi] at this
  exact this

theorem path_chain (C : CutRows x0 y0 w h R m S A B) (K : ArcsOk x0 y0 w h m A B o nx len) : ∀ {L : List Nat} {i j : Nat}, ChainN nx i L j → (∀ a ∈ L, a < m) → ChainS (A i) (L.flatMap (rowArc x0 y0 w h o S B len)) (A j)
  | [], i, j, hc, _ => by cases hc; rfl
  | a :: l, i, j, hc, hl => by
    obtain ⟨rfl, h2⟩ := hc
    rw [List.flatMap_cons]
    exact chain_join (rowArc_chain C K (hl a (by simp))) (path_chain C K h2 fun b hb => hl b (by simp [hb]))

/-- A round of rows and pieces is a simple ring. -/
theorem round_simp (C : CutRows x0 y0 w h R m S A B) (K : ArcsOk x0 y0 w h m A B o nx len) {L : List Nat} {i : Nat} (hc : ChainN nx i L i) (hn : L.Nodup) (hl : ∀ a ∈ L, a < m) : SimpS (L.flatMap (rowArc x0 y0 w h o S B len)) where
  chain := ⟨_, path_chain C K hc hl⟩
  unit := fun s hs => by
    obtain ⟨a, ha, hs⟩ := List.mem_flatMap.1 hs
    exact (rowArc_in C K (hl a ha) hs).2
  starts := (apt_nodup (union_apt C K hn hl)).1
  mids := (apt_nodup (union_apt C K hn hl)).2

theorem round_in (C : CutRows x0 y0 w h R m S A B) (K : ArcsOk x0 y0 w h m A B o nx len) {L : List Nat} (hl : ∀ a ∈ L, a < m) : ∀ s ∈ L.flatMap (rowArc x0 y0 w h o S B len), InB x0 y0 w h s.1 ∧ InB x0 y0 w h s.2 := fun s hs => by
  obtain ⟨a, ha, hs⟩ := List.mem_flatMap.1 hs
  exact (rowArc_in C K (hl a ha) hs).1

theorem arc_first {x0 y0 w h o t : Int} {n : Nat} (hn : 0 < n) : (bpt x0 y0 w h t, bpt x0 y0 w h (t + o)) ∈ arcS x0 y0 w h o t n := by
  refine List.mem_map.2 ⟨0, List.mem_range.2 hn, ?_⟩
  simp

/-- It turns as the boundary is gone along. -/
theorem round_area (C : CutRows x0 y0 w h R m S A B) (K : ArcsOk x0 y0 w h m A B o nx len) {L : List Nat} {i : Nat} (hc : ChainN nx i L i) (hn : L.Nodup) (hl : ∀ a ∈ L, a < m) (hne : L ≠ []) :
    (o = 1 → 0 < sumQ areaS (L.flatMap (rowArc x0 y0 w h o S B len))) ∧ (o = -1 → sumQ areaS (L.flatMap (rowArc x0 y0 w h o S B len)) < 0) := by
  obtain ⟨hw, hh⟩ := C.wide
  have hs := round_simp C K hc hn hl
  have hin := round_in C K hl
  obtain ⟨a, l, rfl⟩ : ∃ a l, L = a :: l := by
    cases L with
    | nil => exact absurd rfl hne
    | cons a l => exact ⟨a, l, rfl⟩
  have ha := hl a (by simp)
  have hm : (bpt x0 y0 w h (posB x0 y0 w h (B a)), bpt x0 y0 w h (posB x0 y0 w h (B a) + o)) ∈ (a :: l).flatMap (rowArc x0 y0 w h o S B len) :=
    List.mem_flatMap.2 ⟨a, by simp, List.mem_append_right _ (arc_first (K.pos a ha))⟩
  have hne2 : (a :: l).flatMap (rowArc x0 y0 w h o S B len) ≠ [] := fun e => by rw [e] at hm; cases hm
  generalize (a :: l).flatMap (rowArc x0 y0 w h o S B len) = U at *
  generalize posB x0 y0 w h (B a) = t at *
  obtain ⟨c, hc2, hall, hv⟩ := hs.jordan hne2
  obtain ⟨ar1, ar2⟩ := hs.area hne2 hc2 hall hv
  have hsd := hall _ hm
  constructor
  · rintro rfl
    obtain ⟨-, h2, -, -⟩ := hsd (bd w h t) (bd_lt t).1 (bpt_next hw hh t)
    have hz := beyond_zero hw hh hs.toRingS hin t
    exact ar1 (by simp only at h2; omega)
  · rintro rfl
    have hb := bd_lt (w := w) (h := h) (t - 1)
    have e1 := bpt_prev (x0 := x0) (y0 := y0) (w := w) (h := h) hw hh t
    have e2 : bpt x0 y0 w h (t + -1) = toK (bpt x0 y0 w h t) ((bd w h (t - 1) + 4) % 8) := by
      rw [e1, toK_back _ _ hb.1]; rfl
    obtain ⟨-, -, h3, -⟩ := hsd ((bd w h (t - 1) + 4) % 8) (by omega) e2
    have hz := beyond_zero hw hh hs.toRingS hin (t - 1)
    simp only at h3
    rw [show ((bd w h (t - 1) + 4) % 8 + 3) % 8 = (bd w h (t - 1) + 7) % 8 by omega, show t + -1 = t - 1 by omega] at h3
    exact ar2 (by omega)
end
end Go.Proofs.Ytafanlbfbfbeoaa

/- Steps, halved: all is doubled. The ring of a law, as what is cut by the box. -/
namespace Go.Proofs.Ytafanlbfbfbeoaa

theorem flat_cong {α β : Type} {f g : α → List β} : ∀ {l : List α}, (∀ a ∈ l, f a = g a) → l.flatMap f = l.flatMap g
  | [], _ => rfl
  | a :: l, h => by rw [List.flatMap_cons, List.flatMap_cons, h a (by simp), flat_cong fun b hb => h b (by simp [hb])]

theorem chain_range (f : Nat → Int × Int) : ∀ n, ChainS (f 0) ((List.range n).map fun k => (f k, f (k + 1))) (f n)
  | 0 => rfl
  | n + 1 => by
    rw [List.range_succ, List.map_append]
    exact chain_join (chain_range f n) ⟨rfl, rfl⟩

theorem seg_chain {P Q : Int × Int} (h : Octi P Q) : ChainS P (segS P Q) Q := by
  have := chain_range (fun k => ptK P (dirK P Q) (k : Int)) (lenK P Q).toNat
  rw [show (((lenK P Q).toNat : Nat) : Int) = lenK P Q by have := len_nonneg P Q; omega, pt_len h] at this
  simp only [Int.natCast_add, Int.cast_ofNat_Int, pt_zero] at this
  exact this

theorem dir_k {d : Int × Int} (h : Dir d) (hn : d.1 ≠ 0 ∨ d.2 ≠ 0) : ∃ k, k < 8 ∧ dX k = d.1 ∧ dY k = d.2 := by
  obtain ⟨d1, d2⟩ := d
  obtain ⟨h1, h2⟩ := h
  simp only at h1 h2 hn ⊢
  rcases h1 with rfl | rfl | rfl <;> rcases h2 with rfl | rfl | rfl
  · exact ⟨5, by decide, rfl, rfl⟩
  · exact ⟨4, by decide, rfl, rfl⟩
  · exact ⟨3, by decide, rfl, rfl⟩
  · exact ⟨6, by decide, rfl, rfl⟩
  · omega
  · exact ⟨2, by decide, rfl, rfl⟩
  · exact ⟨7, by decide, rfl, rfl⟩
  · exact ⟨0, by decide, rfl, rfl⟩
  · exact ⟨1, by decide, rfl, rfl⟩

theorem seg_unit {P Q : Int × Int} : ∀ s ∈ segS P Q, UnitS s := fun s hs => by
  unfold segS at hs
  obtain ⟨k, hk, rfl⟩ := List.mem_map.1 hs
  have hk := List.mem_range.1 hk
  obtain ⟨j, hj, e1, e2⟩ := dir_k (dir_ok P Q) (by unfold dirK sgn; unfold lenK at hk; simp only; omega)
  refine ⟨j, hj, ?_⟩
  unfold toK ptK
  rw [e1, e2]
  simp only [Int.add_mul, Int.one_mul]
  refine Prod.ext ?_ ?_ <;> simp only <;> omega

theorem stepsR_chain : ∀ (l : List (Int × Int)) (P : Int × Int), OctiL P l → ChainS P (stepsR P l) (lastOr P l)
  | [], _, _ => rfl
  | Q :: l, P, h => by
    have e : lastOr P (Q :: l) = lastOr Q l := by
      unfold lastOr
      cases l with
      | nil => rfl
      | cons a l => rw [List.getLast?_cons_cons, List.getLast?_eq_some_getLast (List.cons_ne_nil a l)]; rfl
    rw [e, stepsR]
    exact chain_join (seg_chain h.1) (stepsR_chain l Q h.2)

theorem stepsR_unit : ∀ (l : List (Int × Int)) (P : Int × Int), ∀ s ∈ stepsR P l, UnitS s
  | [], _ => by simp [stepsR]
  | Q :: l, P => fun s hs => by
    rw [stepsR] at hs
    rcases List.mem_append.1 hs with h | h
    · exact seg_unit s h
    · exact stepsR_unit l Q s h

theorem stepsL_unit (l : List (Int × Int)) : ∀ s ∈ stepsL l, UnitS s := by
  cases l with
  | nil => simp [stepsL]
  | cons P l => exact stepsR_unit l P

/-- Each step in two. -/
def dblS (l : List ((Int × Int) × (Int × Int))) : List ((Int × Int) × (Int × Int)) := l.flatMap fun s => [(dblP s.1, midS s), (midS s, dblP s.2)]

theorem dblS_append (a b : List ((Int × Int) × (Int × Int))) : dblS (a ++ b) = dblS a ++ dblS b := List.flatMap_append

theorem dblS_mem {l : List ((Int × Int) × (Int × Int))} {u : (Int × Int) × (Int × Int)} (h : u ∈ dblS l) : ∃ s ∈ l, u = (dblP s.1, midS s) ∨ u = (midS s, dblP s.2) := by
  obtain ⟨s, hs, hu⟩ := List.mem_flatMap.1 h
  exact ⟨s, hs, by simpa using hu⟩

theorem dblS_chain : ∀ {l : List ((Int × Int) × (Int × Int))} {a b : Int × Int}, ChainS a l b → ChainS (dblP a) (dblS l) (dblP b)
  | [], _, _, h => by cases h; rfl
  | s :: l, _, _, h => by
    obtain ⟨rfl, h2⟩ := h
    exact ⟨rfl, rfl, dblS_chain h2⟩

theorem range_two : ∀ n, List.range (2 * n) = (List.range n).flatMap fun k => [2 * k, 2 * k + 1]
  | 0 => rfl
  | n + 1 => by
    rw [show 2 * (n + 1) = (2 * n + 1) + 1 by omega, List.range_succ, List.range_succ, List.range_succ, List.flatMap_append, ← range_two n]
    simp

theorem seg_dbl {P Q : Int × Int} : segS (dblP P) (dblP Q) = dblS (segS P Q) := by
  have e1 : lenK (dblP P) (dblP Q) = 2 * lenK P Q := by unfold lenK dblP; simp only; omega
  have e2 : dirK (dblP P) (dblP Q) = dirK P Q := by unfold dirK sgn dblP; simp only; refine Prod.ext ?_ ?_ <;> simp only <;> omega
  have hl := len_nonneg P Q
  unfold segS dblS
  rw [e1, e2, show (2 * lenK P Q).toNat = 2 * (lenK P Q).toNat by omega, range_two, List.map_flatMap, List.flatMap_map]
  refine flat_cong fun k _ => ?_
  simp only [List.map_cons, List.map_nil]
  have f0 : ptK (dblP P) (dirK P Q) ((2 * k : Nat) : Int) = dblP (ptK P (dirK P Q) k) := by
    unfold ptK dblP; refine Prod.ext ?_ ?_ <;> simp only [Int.natCast_mul, Int.cast_ofNat_Int, Int.mul_add, Int.mul_assoc]
  have f1 : ptK (dblP P) (dirK P Q) (((2 * k : Nat) : Int) + 1) = midS (ptK P (dirK P Q) k, ptK P (dirK P Q) ((k : Int) + 1)) := by
    unfold ptK dblP midS; refine Prod.ext ?_ ?_ <;> simp only [Int.natCast_mul, Int.cast_ofNat_Int, Int.add_mul, Int.mul_assoc] <;> omega
  have f2 : ptK (dblP P) (dirK P Q) (((2 * k + 1 : Nat) : Int) + 1) = dblP (ptK P (dirK P Q) ((k : Int) + 1)) := by
    unfold ptK dblP; refine Prod.ext ?_ ?_ <;> simp only [Int.natCast_mul, Int.natCast_add, Int.cast_ofNat_Int, Int.add_mul, Int.mul_assoc] <;> omega
  have f3 : ((2 * k + 1 : Nat) : Int) = ((2 * k : Nat) : Int) + 1 := by omega
  rw [f0, f1, f2, f3, f1]

theorem stepsR_dbl : ∀ (l : List (Int × Int)) (P : Int × Int), stepsR (dblP P) (l.map dblP) = dblS (stepsR P l)
  | [], _ => rfl
  | Q :: l, P => by rw [List.map_cons, stepsR, stepsR, dblS_append, seg_dbl, stepsR_dbl l Q]

theorem stepsL_dbl (l : List (Int × Int)) : stepsL (l.map dblP) = dblS (stepsL l) := by
  cases l with
  | nil => rfl
  | cons P l => exact stepsR_dbl l P

theorem unit_bd {s : (Int × Int) × (Int × Int)} (h : UnitS s) : (s.2.1 - s.1.1 = -1 ∨ s.2.1 - s.1.1 = 0 ∨ s.2.1 - s.1.1 = 1) ∧ (s.2.2 - s.1.2 = -1 ∨ s.2.2 - s.1.2 = 0 ∨ s.2.2 - s.1.2 = 1) ∧ (s.2.1 ≠ s.1.1 ∨ s.2.2 ≠ s.1.2) := by
  obtain ⟨k, hk, e⟩ := h
  have e1 : s.2.1 = s.1.1 + dX k := by rw [e]; rfl
  have e2 : s.2.2 = s.1.2 + dY k := by rw [e]; rfl
  have : (dX k = -1 ∨ dX k = 0 ∨ dX k = 1) ∧ (dY k = -1 ∨ dY k = 0 ∨ dY k = 1) ∧ (dX k ≠ 0 ∨ dY k ≠ 0) := by
    revert hk k
    refine fun k _ _ _ hk => ?_
    match k, hk with
    | 0, _ | 1, _ | 2, _ | 3, _ | 4, _ | 5, _ | 6, _ | 7, _ => all_goals decide
  omega

theorem unit_of {s : (Int × Int) × (Int × Int)} (h : (s.2.1 - s.1.1 = -1 ∨ s.2.1 - s.1.1 = 0 ∨ s.2.1 - s.1.1 = 1) ∧ (s.2.2 - s.1.2 = -1 ∨ s.2.2 - s.1.2 = 0 ∨ s.2.2 - s.1.2 = 1) ∧ (s.2.1 ≠ s.1.1 ∨ s.2.2 ≠ s.1.2)) : UnitS s := by
  obtain ⟨k, hk, e1, e2⟩ := dir_k (d := (s.2.1 - s.1.1, s.2.2 - s.1.2)) ⟨h.1, h.2.1⟩ (by simp only; omega)
  refine ⟨k, hk, ?_⟩
  unfold toK
  rw [e1, e2]
  refine Prod.ext ?_ ?_ <;> simp only <;> omega

theorem dblS_simp {R : List ((Int × Int) × (Int × Int))} (h : SimpS R) : SimpS (dblS R) := by
  have hap : (dblS R).Pairwise AptS := by
    unfold dblS
    rw [List.pairwise_flatMap]
    refine ⟨fun s hs => ?_, ?_⟩
    · have hu := unit_bd (h.unit s hs)
      simp only [List.pairwise_cons, List.mem_singleton, forall_eq, List.not_mem_nil, false_implies, implies_true, List.Pairwise.nil, and_true]
      refine ⟨fun e => ?_, fun e => ?_⟩
      · have e1 := congrArg Prod.fst e
        have e2 := congrArg Prod.snd e
        simp only [dblP, midS] at e1 e2
        omega
      · have e1 := congrArg Prod.fst e
        have e2 := congrArg Prod.snd e
        simp only [dblP, midS] at e1 e2
        omega
    · have hp := nodup_apt h.starts h.mids
      refine List.Pairwise.imp_of_mem (fun {s u} hs hu hsu => ?_) hp
      obtain ⟨n1, n2⟩ := hsu
      have hs1 := unit_bd (h.unit s hs)
      have hu1 := unit_bd (h.unit u hu)
      obtain ⟨⟨a1, a2⟩, b1, b2⟩ := s
      obtain ⟨⟨c1, c2⟩, d1, d2⟩ := u
      simp only [midS, ne_eq, Prod.mk.injEq] at n1 n2 hs1 hu1
      have bs : (-1 ≤ b1 - a1 ∧ b1 - a1 ≤ 1) ∧ (-1 ≤ b2 - a2 ∧ b2 - a2 ≤ 1) := by omega
      have bu : (-1 ≤ d1 - c1 ∧ d1 - c1 ≤ 1) ∧ (-1 ≤ d2 - c2 ∧ d2 - c2 ≤ 1) := by omega
      have q1 : ∀ {a b c d : Int}, (-1 ≤ b - a ∧ b - a ≤ 1) → (-1 ≤ d - c ∧ d - c ≤ 1) → 2 * a + (a + b) = 2 * c + (c + d) → a = c := by omega
      have q2 : ∀ {a b c d : Int}, (-1 ≤ b - a ∧ b - a ≤ 1) → (-1 ≤ d - c ∧ d - c ≤ 1) → 2 * a + (a + b) = c + d + 2 * d → a + b = c + d := by omega
      have q3 : ∀ {a b c d : Int}, (-1 ≤ b - a ∧ b - a ≤ 1) → (-1 ≤ d - c ∧ d - c ≤ 1) → a + b + 2 * b = 2 * c + (c + d) → a + b = c + d := by omega
      have q4 : ∀ {a b c d : Int}, (-1 ≤ b - a ∧ b - a ≤ 1) → (-1 ≤ d - c ∧ d - c ≤ 1) → a + b + 2 * b = c + d + 2 * d → a = c := by omega
      have r1 : ∀ {a c d : Int}, (-1 ≤ d - c ∧ d - c ≤ 1) → 2 * a = c + d → d = c := by omega
      have zs : ¬ (b1 = a1 ∧ b2 = a2) := by omega
      have zu : ¬ (d1 = c1 ∧ d2 = c2) := by omega
      clear hs1 hu1 hs hu
      intro a ha b hb
      simp only [List.mem_cons, List.not_mem_nil, or_false] at ha hb
      rcases ha with rfl | rfl <;> rcases hb with rfl | rfl
      · refine ⟨fun e => ?_, fun e => ?_⟩ <;> (simp only [dblP, midS, Prod.mk.injEq] at e)
        · exact n1 ⟨by omega, by omega⟩
        · exact n1 ⟨q1 bs.1 bu.1 e.1, q1 bs.2 bu.2 e.2⟩
      · refine ⟨fun e => ?_, fun e => ?_⟩ <;> (simp only [dblP, midS, Prod.mk.injEq] at e)
        · exact zu ⟨r1 bu.1 e.1, r1 bu.2 e.2⟩
        · exact n2 ⟨q2 bs.1 bu.1 e.1, q2 bs.2 bu.2 e.2⟩
      · refine ⟨fun e => ?_, fun e => ?_⟩ <;> (simp only [dblP, midS, Prod.mk.injEq] at e)
        · exact zs ⟨r1 bs.1 e.1.symm, r1 bs.2 e.2.symm⟩
        · exact n2 ⟨q3 bs.1 bu.1 e.1, q3 bs.2 bu.2 e.2⟩
      · refine ⟨fun e => ?_, fun e => ?_⟩ <;> (simp only [dblP, midS, Prod.mk.injEq] at e)
        · exact n2 e
        · exact n1 ⟨q4 bs.1 bu.1 e.1, q4 bs.2 bu.2 e.2⟩
  obtain ⟨h1, h2⟩ := apt_nodup hap
  obtain ⟨P, hP⟩ := h.chain
  refine ⟨⟨⟨dblP P, dblS_chain hP⟩, fun u hu => ?_⟩, h1, h2⟩
  obtain ⟨s, hs, rfl | rfl⟩ := dblS_mem hu
  all_goals
    have hs1 := unit_bd (h.unit s hs)
    refine unit_of ?_
    simp only [dblP, midS]
    omega

/-- A ring that is called simple. -/
theorem simple_simp {ps : List (Int × Int)} (hc : ps.head? = ps.getLast?) (ho : OctiL (ps.headD (0, 0)) ps) (h : SimpleB (stepsL ps)) : SimpS (stepsL ps) := by
  obtain ⟨h3, -, hap, -⟩ := h
  have hpw : (stepsL ps).Pairwise AptS := by
    rw [List.pairwise_iff_getElem]
    intro i j hi hj hij
    have := hap j i hj hij
    refine ⟨fun e => this.1 e.symm, fun e => this.2 ?_⟩
    have e1 := congrArg Prod.fst e
    have e2 := congrArg Prod.snd e
    simp only [midS] at e1 e2
    exact ⟨e1.symm, e2.symm⟩
  obtain ⟨h1, h2⟩ := apt_nodup hpw
  refine ⟨⟨?_, stepsL_unit ps⟩, h1, h2⟩
  cases ps with
  | nil => simp [stepsL] at h3
  | cons P l =>
    refine ⟨P, ?_⟩
    have := stepsR_chain l P ho.2
    have e : lastOr P l = P := by
      rw [List.head?_cons] at hc
      cases l with
      | nil => rfl
      | cons Q l =>
        rw [List.getLast?_cons_cons] at hc
        unfold lastOr
        rw [← hc]; rfl
    rw [e] at this
    exact this

/-- A step whose end is no corner goes on as it was. -/
theorem straight : ∀ (l : List (Int × Int)) (P : Int × Int) (s : (Int × Int) × (Int × Int)), OctiL P l → s ∈ stepsR P l → s.2 ∉ l → ∃ u ∈ stepsR P l, u.1 = s.2 ∧ u.2 = (2 * s.2.1 - s.1.1, 2 * s.2.2 - s.1.2)
  | [], _, _, _, h, _ => by simp [stepsR] at h
  | Q :: l, P, s, ho, h, hn => by
    rw [stepsR] at h ⊢
    rcases List.mem_append.1 h with h1 | h1
    · unfold segS at h1
      obtain ⟨k, hk, rfl⟩ := List.mem_map.1 h1
      have hk := List.mem_range.1 hk
      simp only at hn
      by_cases hk1 : k + 1 < (lenK P Q).toNat
      · refine ⟨(ptK P (dirK P Q) ((k + 1 : Nat) : Int), ptK P (dirK P Q) (((k + 1 : Nat) : Int) + 1)), List.mem_append_left _ ?_, by simp, ?_⟩
        · unfold segS
          exact List.mem_map.2 ⟨k + 1, List.mem_range.2 hk1, rfl⟩
        · unfold ptK
          refine Prod.ext ?_ ?_ <;> simp only [Int.natCast_add, Int.cast_ofNat_Int, Int.add_mul, Int.one_mul] <;> omega
      · exfalso
        have e : ptK P (dirK P Q) ((k : Int) + 1) = Q := by rw [show (k : Int) + 1 = lenK P Q by omega, pt_len ho.1]
        exact hn (by rw [e]; exact List.mem_cons_self)
    · obtain ⟨u, hu, e1, e2⟩ := straight l Q s ho.2 h1 fun hm => hn (List.mem_cons_of_mem _ hm)
      exact ⟨u, List.mem_append_right _ hu, e1, e2⟩
end Go.Proofs.Ytafanlbfbfbeoaa

/- The rows of a ring in a box, joined where the ring begins within it: they are what CutRows asks for. -/
namespace Go.Proofs.Ytafanlbfbfbeoaa

/-- The last row goes on in the first. -/
def joinJ (rows : List (List (Int × Int))) : List (List (Int × Int)) := ((rows.getLast!) ++ (rows.head!).tail) :: (rows.tail).dropLast

section
variable {lx ly hx hy : Int}

theorem steps_off : ∀ (l : List (Int × Int)) (P : Int × Int), OctiL P l → (∀ p ∈ P :: l, OffB lx ly hx hy p) → ∀ s ∈ stepsR P l, (s.1.1 = s.2.1 → s.1.1 ≠ lx ∧ s.1.1 ≠ hx) ∧ (s.1.2 = s.2.2 → s.1.2 ≠ ly ∧ s.1.2 ≠ hy)
  | [], _, _, _ => by simp [stepsR]
  | Q :: l, P, ho, hoff => fun s hs => by
    rw [stepsR] at hs
    rcases List.mem_append.1 hs with h | h
    · unfold segS at h
      obtain ⟨k, hk, rfl⟩ := List.mem_map.1 h
      have hd := off_dir (Q := Q) (hoff P (by simp))
      unfold Off at hd
      generalize dirK P Q = d at *
      unfold ptK
      simp only [Int.add_mul, Int.one_mul]
      constructor
      · intro e
        have e0 : d.1 = 0 := by omega
        have := hd.1 e0
        simp only [e0, Int.mul_zero]
        omega
      · intro e
        have e0 : d.2 = 0 := by omega
        have := hd.2 e0
        simp only [e0, Int.mul_zero]
        omega
    · exact steps_off l Q ho.2 (fun p hp => hoff p (List.mem_cons_of_mem _ hp)) s h

theorem unit_le {s : (Int × Int) × (Int × Int)} (h : UnitS s) : ((-1 ≤ s.2.1 - s.1.1 ∧ s.2.1 - s.1.1 ≤ 1) ∧ (-1 ≤ s.2.2 - s.1.2 ∧ s.2.2 - s.1.2 ≤ 1)) ∧ ¬ (s.1.1 = s.2.1 ∧ s.1.2 = s.2.2) := by
  have := unit_bd h
  omega

theorem ring_cut (h1 : lx < hx) (h2 : ly < hy) {P0 : Int × Int} {l : List (Int × Int)} (ho : OctiL P0 l) (hS : SimpS (stepsR P0 l)) (hoff : ∀ p ∈ P0 :: l, OffB lx ly hx hy p) (hc : ∀ s ∈ stepsR P0 l, OffC lx ly hx hy s) :
    CutR (2 * lx) (2 * ly) (2 * (hx - lx)) (2 * (hy - ly)) (dblS (stepsR P0 l)) where
  hw := by omega
  hh := by omega
  simp := dblS_simp hS
  mid u hu i1 i2 := by
    obtain ⟨s, hs, rfl | rfl⟩ := dblS_mem hu
    all_goals
      have hb := unit_le (hS.unit s hs)
      have hf := steps_off l P0 ho hoff s hs
      obtain ⟨⟨a1, a2⟩, b1, b2⟩ := s
      unfold InB dblP midS at i1 i2
      unfold MidIn dblP midS
      simp only at i1 i2 hb hf ⊢
      refine ⟨⟨?_, ?_⟩, ?_, ?_⟩
      · have := hf.1; clear hf; omega
      · have := hf.1; clear hf; omega
      · have := hf.2; clear hf; omega
      · have := hf.2; clear hf; omega
  corner u hu hcb := by
    obtain ⟨s, hs, rfl | rfl⟩ := dblS_mem hu
    all_goals
      have hb := unit_le (hS.unit s hs)
      have hf := hc s hs
      obtain ⟨⟨a1, a2⟩, b1, b2⟩ := s
      unfold CornB dblP midS at hcb
      unfold OffC at hf
      simp only at hcb hf hb
      obtain ⟨c1, c2⟩ := hcb
      first
        | (exact hf ⟨by clear hf c2 hb; omega, by clear hf c1 hb; omega⟩)
        | (have e1 : a1 = b1 := by clear hf c2; omega
           have e2 : a2 = b2 := by clear hf c1; omega
           omega)
  cross u hu v hv e on i1 i2 := by
    obtain ⟨s, hs, hus⟩ := dblS_mem hu
    obtain ⟨t, ht, hvt⟩ := dblS_mem hv
    have hb := unit_le (hS.unit s hs)
    have hbt := unit_le (hS.unit t ht)
    have hf := steps_off l P0 ho hoff s hs
    rcases hus with rfl | rfl
    · unfold OnS InB midS at on
      simp only at on
      omega
    · have hn : s.2 ∉ l := fun hm => by
        have := hoff _ (List.mem_cons_of_mem _ hm)
        unfold OffB at this
        unfold OnS InB dblP at on
        simp only at on
        omega
      obtain ⟨t', ht', e1, e2⟩ := straight l P0 s ho hs hn
      rcases hvt with rfl | rfl
      · have e3 : t.1 = s.2 := by
          have a1 := congrArg Prod.fst e
          have a2 := congrArg Prod.snd e
          simp only [dblP] at a1 a2
          exact Prod.ext (by omega) (by omega)
        have e4 : t = t' := nodup_inj hS.starts ht ht' (by rw [e3, e1])
        subst e4
        have a1 := congrArg Prod.fst e2
        have a2 := congrArg Prod.snd e2
        have b1 := congrArg Prod.fst e1
        have b2 := congrArg Prod.snd e1
        simp only at a1 a2
        unfold OnS InB dblP at on
        unfold InB midS at i1 i2
        simp only at on i1 i2
        omega
      · have a1 := congrArg Prod.fst e
        have a2 := congrArg Prod.snd e
        simp only [dblP, midS] at a1 a2
        omega

theorem filter_dbl {f : (Int × Int) × (Int × Int) → Bool} {g : (Int × Int) × (Int × Int) → Bool} : ∀ {ss : List ((Int × Int) × (Int × Int))}, (∀ s ∈ ss, g (dblP s.1, midS s) = f s ∧ g (midS s, dblP s.2) = f s) → (dblS ss).filter g = dblS (ss.filter f)
  | [], _ => rfl
  | s :: ss, h => by
    have ih := filter_dbl (f := f) (g := g) (ss := ss) fun u hu => h u (by simp [hu])
    obtain ⟨e1, e2⟩ := h s (by simp)
    have ed : dblS (s :: ss) = [(dblP s.1, midS s), (midS s, dblP s.2)] ++ dblS ss := rfl
    rw [ed, List.filter_append, ih]
    simp only [List.filter_cons, e1, e2, List.filter_nil]
    by_cases hf : f s = true
    · simp only [hf, if_true]
      rfl
    · simp only [hf, if_false, Bool.false_eq_true]
      rfl

theorem range_flat {α β : Type} [Inhabited α] (f : α → List β) : ∀ (J : List α), (List.range J.length).flatMap (fun i => f J[i]!) = J.flatMap f
  | [] => rfl
  | a :: J => by
    rw [List.length_cons, List.range_succ_eq_map, List.flatMap_cons, List.flatMap_map, List.flatMap_cons, ← range_flat f J]
    rfl

/-- What is asked of a row, behind the joining. -/
structure JRow (lx ly hx hy : Int) (N : Nat) (r : List (Int × Int)) : Prop where
  len : 2 ≤ r.length ∧ r.length ≤ N
  hd : OnX lx ly hx hy r.head!
  lst : OnX lx ly hx hy r.getLast!
  ne : stepsL r ≠ []
  inb : ∀ p ∈ r, hasB lx ly hx hy p.1 p.2 = true
  oct : OctiL (r.headD (0, 0)) r

theorem row_chain {r : List (Int × Int)} (h : r ≠ []) (ho : OctiL (r.headD (0, 0)) r) : ChainS r.head! (stepsL r) r.getLast! := by
  cases r with
  | nil => exact absurd rfl h
  | cons P l =>
    have := stepsR_chain l P ho.2
    have e : (P :: l).getLast! = lastOr P l := by
      unfold lastOr
      cases l with
      | nil => rfl
      | cons Q l => rw [List.getLast!_eq_getLast?_getD, List.getLast?_cons_cons, List.getLast?_eq_some_getLast (List.cons_ne_nil Q l)]; rfl
    rw [e]
    exact this

theorem last_snoc_l {α : Type} [Inhabited α] (l : List α) (a : α) : (l ++ [a]).getLast! = a := by
  rw [List.getLast!_eq_getLast?_getD]; simp
theorem last_app {a b : List (Int × Int)} (h : b ≠ []) : (a ++ b).getLast! = b.getLast! := by
  rcases List.eq_nil_or_concat b with e | ⟨m, y, e⟩
  · exact absurd e h
  · rw [e, List.concat_eq_append, ← List.append_assoc, last_snoc_l, last_snoc_l]
theorem head_app'' {a b : List (Int × Int)} (h : a ≠ []) : (a ++ b).head! = a.head! := by
  cases a with
  | nil => exact absurd rfl h
  | cons p l => rfl
theorem stepsR_app : ∀ (a b : List (Int × Int)) (P : Int × Int), stepsR P (a ++ b) = stepsR P a ++ stepsR (lastOr P a) b
  | [], b, P => rfl
  | Q :: a, b, P => by
    have e : lastOr P (Q :: a) = lastOr Q a := by
      unfold lastOr
      cases a with
      | nil => rfl
      | cons c a => rw [List.getLast?_cons_cons, List.getLast?_eq_some_getLast (List.cons_ne_nil c a)]; rfl
    rw [List.cons_append, stepsR, stepsR, stepsR_app a b Q, e, List.append_assoc]

theorem three {α : Type} : ∀ (l : List α), 2 ≤ l.length → ∃ a mid z, l = a :: (mid ++ [z])
  | [], h => by simp at h
  | [a], h => by simp at h
  | a :: b :: l, _ => by
    rcases List.eq_nil_or_concat (b :: l) with e | ⟨m, z, e⟩
    · cases e
    · exact ⟨a, m, z, by rw [e, List.concat_eq_append]⟩

/-- What is known of the rows. -/
structure RowsJ (lx ly hx hy : Int) (P0 : Int × Int) (N : Nat) (rows : List (List (Int × Int))) (jn : Bool) : Prop where
  row : ∀ r ∈ (if jn then joinJ rows else rows), JRow lx ly hx hy N r
  perm : ((if jn then joinJ rows else rows).flatMap stepsL).Perm (rows.flatMap stepsL)
  few : (if jn then joinJ rows else rows).length ≤ rows.length
  pos : 0 < (if jn then joinJ rows else rows).length
  len : ∀ r ∈ rows, 2 ≤ r.length ∧ r.length ≤ N
  ends : ∀ k (h : k < rows.length), (jn = false ∨ k + 1 < rows.length) → OnX lx ly hx hy (rows[k].getLast!)
  starts : jn = true → ∀ k (h : k < rows.length), 1 ≤ k → OnX lx ly hx hy (rows[k].head!)
  two : jn = true → 2 ≤ rows.length
  inn : jn = true → Ins lx ly hx hy (rows.head!.head!)
  meet : jn = true → rows.getLast!.getLast! = rows.head!.head!

theorem rows_j {P0 : Int × Int} {ps : List (Int × Int)} {rows : List (List (Int × Int))} (h : RFin lx ly hx hy P0 P0 ps rows) (hok : ∀ r ∈ rows, RowOk lx ly hx hy r) (hne : rows ≠ []) (hout : ∃ p ∈ ps, ¬ Ins lx ly hx hy p) (jn : Bool) (hjn : jn = true ↔ Ins lx ly hx hy P0) :
    RowsJ lx ly hx hy P0 (4 * ps.length) rows jn := by
  have hlen : ∀ r ∈ rows, 2 ≤ r.length ∧ r.length ≤ 4 * ps.length := fun r hr => by
    obtain ⟨j, hj, rfl⟩ := List.mem_iff_getElem.1 hr
    have := (h.row j hj).2.1
    omega
  by_cases hI : Ins lx ly hx hy P0
  · have hj1 : jn = true := hjn.2 hI
    subst hj1
    have h2 : 2 ≤ rows.length := by
      rcases Nat.lt_or_ge rows.length 2 with hl | hl
      · exfalso
        have h1 : rows.length = 1 := by have := List.length_pos_iff.2 hne; omega
        obtain ⟨p, hp, hnp⟩ := hout
        rcases (h.row 0 (by omega)).2.2 with ⟨_, _, e⟩ | ⟨_, _, _, e⟩
        · exact e (by omega) hI
        · exact hnp (e rfl hI p hp)
      · exact hl
    obtain ⟨a, mid, z, rfl⟩ := three rows h2
    have hz : (a :: (mid ++ [z])).getLast! = z := by rw [← List.cons_append, last_snoc_l]
    have hjo : joinJ (a :: (mid ++ [z])) = (z ++ a.tail) :: mid := by
      unfold joinJ
      rw [hz]
      simp only [List.tail_cons, List.dropLast_concat]
      rfl
    have hn : (a :: (mid ++ [z])).length = mid.length + 2 := by simp
    obtain ⟨a1, a2, a3⟩ := h.row 0 (by simp)
    simp only [List.getElem_cons_zero] at a1 a2 a3
    have ha1 : a.head! = P0 := by
      rcases a1 with ⟨_, _, e⟩ | ⟨e, _⟩
      · exact e
      · exact absurd hI (e rfl)
    have ha3 : OnX lx ly hx hy a.getLast! ∧ stepsL a ≠ [] := by
      rcases a3 with ⟨e1, e2, _⟩ | ⟨e, _⟩
      · exact ⟨e1, e2⟩
      · rw [hn] at e; omega
    obtain ⟨z1, z2, z3⟩ := h.row (mid.length + 1) (by simp)
    have ez : (a :: (mid ++ [z]))[mid.length + 1]'(by simp) = z := by simp
    rw [ez] at z1 z2 z3
    have hz1 : OnX lx ly hx hy z.head! := by
      rcases z1 with ⟨e, _⟩ | ⟨_, e⟩
      · omega
      · exact e
    have hz3 : z.getLast! = P0 := by
      rcases z3 with ⟨_, _, e⟩ | ⟨_, _, e, _⟩
      · exact absurd hI (e (by rw [hn]))
      · exact e
    have hmid : ∀ j (hj : j < mid.length), (OnX lx ly hx hy mid[j].head! ∧ OnX lx ly hx hy mid[j].getLast! ∧ stepsL mid[j] ≠ []) := fun j hj => by
      obtain ⟨m1, m2, m3⟩ := h.row (j + 1) (by simp; omega)
      have em : (a :: (mid ++ [z]))[j + 1]'(by simp; omega) = mid[j] := by simp [List.getElem_append_left hj]
      rw [em] at m1 m2 m3
      refine ⟨?_, ?_⟩
      · rcases m1 with ⟨e, _⟩ | ⟨_, e⟩
        · omega
        · exact e
      · rcases m3 with ⟨e1, e2, _⟩ | ⟨e, _⟩
        · exact ⟨e1, e2⟩
        · rw [hn] at e; omega
    have hane : a ≠ [] := fun e => by rw [e] at a2; simp at a2
    have hzne : z ≠ [] := fun e => by rw [e] at z2; simp at z2
    have oka := hok a (by simp)
    have okz := hok z (by simp)
    have hat : a.head! :: a.tail = a := by
      cases a with
      | nil => exact absurd rfl hane
      | cons p l => rfl
    obtain ⟨zi, zl, hzz⟩ : ∃ zi zl, z = zi ++ [zl] := by
      rcases List.eq_nil_or_concat z with e | ⟨m, y, e⟩
      · exact absurd e hzne
      · exact ⟨m, y, by rw [e, List.concat_eq_append]⟩
    have hzl : zl = P0 := by rw [hzz, last_snoc] at hz3; exact hz3
    have hja : z ++ a.tail = zi ++ a := by
      rw [hzz, hzl, List.append_assoc, ← ha1]
      show zi ++ (a.head! :: a.tail) = zi ++ a
      rw [hat]
    have hsteps : stepsL (z ++ a.tail) = stepsL z ++ stepsL a := by
      have : stepsL a = stepsR P0 a.tail := by rw [← hat, ha1]; rfl
      rw [this]
      have hl : lastOr (z.headD (0, 0)) z = P0 := by unfold lastOr; rw [hzz]; simp [hzl]
      cases hzc : z with
      | nil => exact absurd hzc hzne
      | cons p zt =>
        rw [hzc] at hl
        show stepsR p (zt ++ a.tail) = stepsR p zt ++ stepsR P0 a.tail
        rw [stepsR_app]
        congr 2
        rw [← hl]
        unfold lastOr
        cases zt with
        | nil => rfl
        | cons q zt => rw [List.getLast?_cons_cons, List.getLast?_eq_some_getLast (List.cons_ne_nil q zt)]; rfl
    have hoct : OctiL ((z ++ a.tail).headD (0, 0)) (z ++ a.tail) := by
      have e : (z ++ a.tail).headD (0, 0) = z.headD (0, 0) := by
        cases hzc : z with
        | nil => exact absurd hzc hzne
        | cons p zt => rfl
      rw [e, octiL_append]
      refine ⟨okz.2, ?_⟩
      have hl : lastOr (z.headD (0, 0)) z = P0 := by unfold lastOr; rw [hzz]; simp [hzl]
      rw [hl]
      have := oka.2
      rw [← hat] at this
      rw [← ha1]
      exact this.2
    refine ⟨?_, ?_, ?_, ?_, hlen, ?_, ?_, fun _ => h2, fun _ => ?_, fun _ => ?_⟩
    · rw [if_pos rfl, hjo]
      intro r hr
      rcases List.mem_cons.1 hr with rfl | hr
      · refine ⟨?_, ?_, ?_, ?_, ?_, hoct⟩
        · have e : (z ++ a.tail).length = z.length + (a.length - 1) := by simp
          rw [e]; omega
        · rw [head_app'' hzne]; exact hz1
        · rw [hja, last_app hane]; exact ha3.1
        · rw [hsteps]; intro e; exact ha3.2 (List.append_eq_nil_iff.1 e).2
        · intro p hp
          rcases List.mem_append.1 hp with hp | hp
          · exact okz.1 p hp
          · exact oka.1 p (List.mem_of_mem_tail hp)
      · obtain ⟨j, hj, rfl⟩ := List.mem_iff_getElem.1 hr
        obtain ⟨m1, m2, m3⟩ := hmid j hj
        have hm : mid[j] ∈ a :: (mid ++ [z]) := by simp
        exact ⟨hlen _ hm, m1, m2, m3, (hok _ hm).1, (hok _ hm).2⟩
    · rw [if_pos rfl, hjo, List.flatMap_cons, List.flatMap_cons, List.flatMap_append, List.flatMap_singleton, hsteps]
      have p1 : (stepsL z ++ stepsL a ++ mid.flatMap stepsL).Perm (stepsL z ++ (stepsL a ++ mid.flatMap stepsL)) := by rw [List.append_assoc]
      refine p1.trans ?_
      refine List.perm_append_comm.trans ?_
      rw [List.append_assoc]
    · rw [if_pos rfl, hjo]; simp
    · rw [if_pos rfl, hjo]; simp
    · intro k hk hor
      have hk2 : k + 1 < (a :: (mid ++ [z])).length := by rcases hor with e | e; (cases e); exact e
      rcases (h.row k hk).2.2 with ⟨e, _⟩ | ⟨e, _⟩
      · exact e
      · omega
    · intro _ k hk h1
      rcases (h.row k hk).1 with ⟨e, _⟩ | ⟨_, e⟩
      · omega
      · exact e
    · show Ins lx ly hx hy a.head!
      rw [ha1]; exact hI
    · rw [hz, hz3]; exact ha1.symm
  · have hj1 : jn = false := by cases jn with | false => rfl | true => exact absurd (hjn.1 rfl) hI
    subst hj1
    have hrow : ∀ k (hk : k < rows.length), OnX lx ly hx hy rows[k].head! ∧ OnX lx ly hx hy rows[k].getLast! ∧ stepsL rows[k] ≠ [] := fun k hk => by
      obtain ⟨m1, m2, m3⟩ := h.row k hk
      refine ⟨?_, ?_⟩
      · rcases m1 with ⟨_, e, _⟩ | ⟨_, e⟩
        · exact absurd e hI
        · exact e
      · rcases m3 with ⟨e1, e2, _⟩ | ⟨_, e, _⟩
        · exact ⟨e1, e2⟩
        · exact absurd e hI
    refine ⟨fun r hr => ?_, List.Perm.refl _, Nat.le_refl _, List.length_pos_iff.2 hne, hlen, fun k hk _ => (hrow k hk).2.1, fun e => (by cases e), fun e => (by cases e), fun e => (by cases e), fun e => (by cases e)⟩
    simp only [Bool.false_eq_true, if_false] at hr
    have hr' := hr
    obtain ⟨j, hj, rfl⟩ := List.mem_iff_getElem.1 hr
    obtain ⟨m1, m2, m3⟩ := hrow j hj
    exact ⟨hlen _ hr', m1, m2, m3, (hok _ hr').1, (hok _ hr').2⟩
end
end Go.Proofs.Ytafanlbfbfbeoaa

/- Within the box the rings that are made go around each point as often as the ring. -/
namespace Go.Proofs.Ytafanlbfbfbeoaa

/-- Strictly within a box. -/
def Intr (x0 y0 w h : Int) (v : Int × Int) : Prop := (x0 < v.1 ∧ v.1 < x0 + w) ∧ y0 < v.2 ∧ v.2 < y0 + h

section
variable {x0 y0 w h : Int} {F : (Int × Int) → Nat → Int}

/-- What does not turn across steps within the box is the same everywhere within it. -/
theorem agree_const (hw : 2 ≤ w) (hh : 2 ≤ h) (g1 : ∀ v k, k < 8 → k % 2 = 0 → F v k = F (toK v k) ((k + 3) % 8)) (g2 : ∀ v k, k < 8 → k % 2 = 0 → F v (k + 1) = F (toK v ((k + 2) % 8)) ((k + 6) % 8))
    (rot : ∀ v k, k < 8 → InB x0 y0 w h v → InB x0 y0 w h (toK v k) → MidIn x0 y0 w h (v, toK v k) → F v k = F v ((k + 7) % 8)) :
    ∃ c, (∀ v, Intr x0 y0 w h v → ∀ k, k < 8 → F v k = c) ∧ ∀ t, ¬ CornB x0 y0 w h (bpt x0 y0 w h t) → F (bpt x0 y0 w h t) (bd w h t) = c ∧ F (bpt x0 y0 w h t) ((bd w h t + 3) % 8) = c := by
  have round : ∀ v, Intr x0 y0 w h v → ∀ k, k < 8 → F v k = F v 0 := by
    intro v hv
    have hr : ∀ k, k < 8 → F v k = F v ((k + 7) % 8) := by
      have hb : InB x0 y0 w h v := by unfold Intr at hv; unfold InB; omega
      have hk : ∀ k, k < 8 → InB x0 y0 w h (toK v k) ∧ MidIn x0 y0 w h (v, toK v k) := by
        obtain ⟨a, b⟩ := v
        unfold Intr at hv
        simp only at hv
        refine eight ?_ ?_ ?_ ?_ ?_ ?_ ?_ ?_ <;> (unfold InB MidIn; simp [toK, dX, dY]; omega)
      exact fun k h8 => rot v k h8 hb (hk k h8).1 (hk k h8).2
    have r1 := hr 1 (by omega)
    have r2 := hr 2 (by omega)
    have r3 := hr 3 (by omega)
    have r4 := hr 4 (by omega)
    have r5 := hr 5 (by omega)
    have r6 := hr 6 (by omega)
    have r7 := hr 7 (by omega)
    simp only [Nat.reduceAdd, Nat.reduceMod] at r1 r2 r3 r4 r5 r6 r7
    exact eight rfl r1 (r2.trans r1) (r3.trans (r2.trans r1)) (r4.trans (r3.trans (r2.trans r1))) (r5.trans (r4.trans (r3.trans (r2.trans r1)))) (r6.trans (r5.trans (r4.trans (r3.trans (r2.trans r1))))) (r7.trans (r6.trans (r5.trans (r4.trans (r3.trans (r2.trans r1))))))
  have right : ∀ (n : Nat) (y : Int), y0 < y ∧ y < y0 + h → x0 + 1 + n < x0 + w → F (x0 + 1 + n, y) 0 = F (x0 + 1, y) 0 := by
    intro n y hy
    induction n with
    | zero => intro _; simp
    | succ n ih =>
      intro hn
      have := g1 (x0 + 1 + n, y) 0 (by omega) rfl
      rw [← ih (by omega), this, round (toK (x0 + 1 + n, y) 0) (by unfold Intr; simp [toK, dX, dY]; omega) ((0 + 3) % 8) (by omega)]
      have e : (x0 + 1 + ((n + 1 : Nat) : Int), y) = toK (x0 + 1 + n, y) 0 := by simp [toK, dX, dY]; omega
      rw [e]
  have up : ∀ (n : Nat), y0 + 1 + n < y0 + h → F (x0 + 1, y0 + 1 + n) 0 = F (x0 + 1, y0 + 1) 0 := by
    intro n
    induction n with
    | zero => intro _; simp
    | succ n ih =>
      intro hn
      have := g1 (x0 + 1, y0 + 1 + n) 2 (by omega) rfl
      rw [← ih (by omega), ← round (x0 + 1, y0 + 1 + n) (by unfold Intr; simp only; omega) 2 (by omega), this, round (toK (x0 + 1, y0 + 1 + n) 2) (by unfold Intr; simp [toK, dX, dY]; omega) ((2 + 3) % 8) (by omega)]
      have e : (x0 + 1, y0 + 1 + ((n + 1 : Nat) : Int)) = toK (x0 + 1, y0 + 1 + n) 2 := by simp [toK, dX, dY]; omega
      rw [e]
  have all : ∀ v, Intr x0 y0 w h v → ∀ k, k < 8 → F v k = F (x0 + 1, y0 + 1) 0 := by
    intro v hv k hk
    rw [round v hv k hk]
    obtain ⟨a, b⟩ := v
    unfold Intr at hv
    simp only at hv
    have h1 := right (a - x0 - 1).toNat b hv.2 (by omega)
    have h2 := up (b - y0 - 1).toNat (by omega)
    rw [show x0 + 1 + ((a - x0 - 1).toNat : Int) = a by omega] at h1
    rw [show y0 + 1 + ((b - y0 - 1).toNat : Int) = b by omega] at h2
    rw [h1, h2]
  refine ⟨_, all, fun t hc => ?_⟩
  have hb := bd_lt (w := w) (h := h) t
  have i1 := inner_dir hw hh t hc (q := (bd w h t + 1) % 8) (.inl rfl)
  have i2 := inner_dir hw hh t hc (q := (bd w h t + 2) % 8) (.inr (.inl rfl))
  have hr := rot (bpt x0 y0 w h t) ((bd w h t + 1) % 8) (by omega) (bpt_on (by omega) (by omega) t).1 i1.1 i1.2
  rw [show ((bd w h t + 1) % 8 + 7) % 8 = bd w h t by omega, show (bd w h t + 1) % 8 = bd w h t + 1 by omega] at hr
  have i3 := inner_dir hw hh t hc (q := (bd w h t + 3) % 8) (.inr (.inr rfl))
  have hr2 := rot (bpt x0 y0 w h t) ((bd w h t + 2) % 8) (by omega) (bpt_on (by omega) (by omega) t).1 i2.1 i2.2
  have hr3 := rot (bpt x0 y0 w h t) ((bd w h t + 3) % 8) (by omega) (bpt_on (by omega) (by omega) t).1 i3.1 i3.2
  rw [show ((bd w h t + 2) % 8 + 7) % 8 = bd w h t + 1 by omega] at hr2
  rw [show ((bd w h t + 3) % 8 + 7) % 8 = (bd w h t + 2) % 8 by omega, hr2, hr] at hr3
  rw [hr3, and_self, ← hr, g2 _ _ hb.1 hb.2]
  refine all _ ?_ _ (by omega)
  have hs := bpt_side (x0 := x0) (y0 := y0) (w := w) (h := h) (by omega) (by omega) t
  generalize bpt x0 y0 w h t = v at *
  unfold CornB at hc
  unfold Intr
  rcases hs with ⟨e, hs⟩ | ⟨e, hs⟩ | ⟨e, hs⟩ | ⟨e, hs⟩ <;> rw [e] <;> simp [toK, dX, dY] <;> omega
end

theorem oK_append (a b : List ((Int × Int) × (Int × Int))) (v : Int × Int) (k : Nat) : oK (a ++ b) v k = oK a v k + oK b v k := sumQ_append _ _ _

theorem jump_append (a b : List ((Int × Int) × (Int × Int))) (v : Int × Int) (k : Nat) : jumpR (a ++ b) v k = jumpR a v k + jumpR b v k := by
  unfold jumpR
  rw [sumQ_append, sumQ_append]
  omega

/-- Several rings together. -/
theorem rings_jump : ∀ {ls : List (List ((Int × Int) × (Int × Int)))}, (∀ l ∈ ls, RingS l) → ∀ v k, k < 8 → oK ls.flatten v k - oK ls.flatten v ((k + 7) % 8) = jumpR ls.flatten v k
  | [], _, v, k, _ => by simp [oK, wQ, sumQ, jumpR]
  | l :: ls, h, v, k, hk => by
    rw [List.flatten_cons, oK_append, oK_append, jump_append]
    have h1 := jump_ring (h l (by simp)) v k hk
    have h2 := rings_jump (ls := ls) (fun l' hl => h l' (List.mem_cons_of_mem _ hl)) v k hk
    unfold jumpR at *
    omega

theorem rings_beyond {x0 y0 w h : Int} (hw : 0 < w) (hh : 0 < h) (t : Int) : ∀ {ls : List (List ((Int × Int) × (Int × Int)))}, (∀ l ∈ ls, RingS l ∧ ∀ s ∈ l, InB x0 y0 w h s.1 ∧ InB x0 y0 w h s.2) → oK ls.flatten (bpt x0 y0 w h t) ((bd w h t + 7) % 8) = 0
  | [], _ => by simp [oK, wQ, sumQ]
  | l :: ls, hl => by
    rw [List.flatten_cons, oK_append, beyond_zero hw hh (hl l (by simp)).1 (hl l (by simp)).2 t, rings_beyond hw hh t fun l' hl' => hl l' (by simp [hl'])]
    rfl

theorem flat_rounds {β : Type} (f : Nat → List β) : ∀ (Ls : List (List Nat)), (Ls.map fun L => L.flatMap f).flatten = Ls.flatten.flatMap f
  | [] => rfl
  | L :: Ls => by rw [List.map_cons, List.flatten_cons, flat_rounds f Ls, List.flatten_cons, List.flatMap_append]

section
variable {x0 y0 w h o : Int} {R : List ((Int × Int) × (Int × Int))} {m : Nat} {S : Nat → List ((Int × Int) × (Int × Int))} {A B : Nat → Int × Int} {nx len : Nat → Nat}

theorem jump_mem {l : List ((Int × Int) × (Int × Int))} (h : (l.map Prod.fst).Nodup) (v : Int × Int) (k : Nat) : jumpR l v k = (if (v, toK v k) ∈ l then 1 else 0) - (if (toK v k, v) ∈ l then 1 else 0) := by
  unfold jumpR
  rw [ind_le h, ind_le h]

theorem MidIn.flip {x0 y0 w h : Int} {a b : Int × Int} (hm : MidIn x0 y0 w h (a, b)) : MidIn x0 y0 w h (b, a) := by
  unfold MidIn at *
  simp only at *
  omega

/-- Without a row the ring counts the same everywhere within the box. -/
theorem none_counts (C : CutRows x0 y0 w h R 0 S A B) : ∃ c, ∀ v, Intr x0 y0 w h v → ∀ k, k < 8 → oK R v k = c := by
  have hp := C.perm
  obtain ⟨c, h1, _⟩ := agree_const (x0 := x0) (y0 := y0) (w := w) (h := h) (F := oK R) C.cut.hw C.cut.hh (fun v k hk he => oK_geo R v hk he) (fun v k hk he => oK_geo2 R v hk he) fun v k hk i1 i2 hm => by
    have := jump_ring C.cut.simp.toRingS v k hk
    have hn : ∀ s ∈ R, InB x0 y0 w h s.1 → ¬ InB x0 y0 w h s.2 := fun s hs a b => by
      obtain ⟨i, hi, _⟩ := C.row hs a b
      omega
    have hz := jump_zero' (R := R) (v := v) (k := k) (fun hm => hn _ hm i1 i2) fun hm => hn _ hm i2 i1
    unfold jumpR at hz
    omega
  exact ⟨c, h1⟩

/-- Within the box the rounds go around each point as often as the ring. -/
theorem rounds_counts (C : CutRows x0 y0 w h R m S A B) (K : ArcsOk x0 y0 w h m A B o nx len) (hm : 0 < m) {Ls : List (List Nat)} (hp : Ls.flatten.Perm (List.range m)) (hL : ∀ L ∈ Ls, ∃ i, ChainN nx i L i)
    (hO : o = if 0 < sumQ areaS R then 1 else -1) {v : Int × Int} (hv : Intr x0 y0 w h v) {k : Nat} (hk : k < 8) : oK (Ls.flatten.flatMap (rowArc x0 y0 w h o S B len)) v k = oK R v k := by
  obtain ⟨hw, hh⟩ := C.wide
  have hlt : ∀ i ∈ Ls.flatten, i < m := fun i hi => List.mem_range.1 ((hp.mem_iff).1 hi)
  have hn : Ls.flatten.Nodup := (hp.nodup_iff).2 List.nodup_range
  have hfl := flat_rounds (rowArc x0 y0 w h o S B len) Ls
  have hrs : ∀ l ∈ Ls.map fun L => L.flatMap (rowArc x0 y0 w h o S B len), RingS l ∧ ∀ s ∈ l, InB x0 y0 w h s.1 ∧ InB x0 y0 w h s.2 := fun l hl => by
    obtain ⟨L, hL', rfl⟩ := List.mem_map.1 hl
    obtain ⟨i, hi⟩ := hL L hL'
    have hlt' : ∀ a ∈ L, a < m := fun a ha => hlt a (List.mem_flatten.2 ⟨L, hL', ha⟩)
    exact ⟨(round_simp C K hi (hn.sublist (List.sublist_flatten_of_mem hL')) hlt').toRingS, round_in C K hlt'⟩
  have hj := rings_jump (fun l hl => (hrs l hl).1)
  rw [hfl] at hj
  have hbz := fun t => rings_beyond hw hh t hrs
  rw [hfl] at hbz
  have hap := apt_nodup (union_apt C K hn hlt)
  have hall : ∀ i, i < m → ∀ s ∈ rowArc x0 y0 w h o S B len i, s ∈ Ls.flatten.flatMap (rowArc x0 y0 w h o S B len) := fun i hi s hs => List.mem_flatMap.2 ⟨i, (hp.mem_iff).2 (List.mem_range.2 hi), hs⟩
  have hmem : ∀ s, InB x0 y0 w h s.1 → InB x0 y0 w h s.2 → MidIn x0 y0 w h s → (s ∈ Ls.flatten.flatMap (rowArc x0 y0 w h o S B len) ↔ s ∈ R) := fun s i1 i2 hmid => by
    constructor
    · intro hs
      obtain ⟨i, hi, hs⟩ := List.mem_flatMap.1 hs
      rcases List.mem_append.1 hs with hs | hs
      · exact (C.mem (hlt i hi) hs).1
      · obtain ⟨a, ha, rfl⟩ := arc_mem hs
        exact absurd (bmid_way K.ho _) (bmid_not hw hh hmid)
    · intro hs
      obtain ⟨i, hi, hs⟩ := C.row hs i1 i2
      exact hall i hi s (List.mem_append_left _ hs)
  generalize hU : Ls.flatten.flatMap (rowArc x0 y0 w h o S B len) = U at *
  -- the difference is the same everywhere
  obtain ⟨c, h1, h2⟩ := agree_const (x0 := x0) (y0 := y0) (w := w) (h := h) (F := fun v k => oK U v k - oK R v k) C.cut.hw C.cut.hh (fun v k hk he => by rw [← oK_geo U v hk he, ← oK_geo R v hk he]) (fun v k hk he => by rw [← oK_geo2 U v hk he, ← oK_geo2 R v hk he]) fun v k hk i1 i2 hmid => by
    have a1 := hj v k hk
    have a2 := jump_ring C.cut.simp.toRingS v k hk
    have a3 : jumpR U v k = jumpR R v k := by
      rw [jump_mem hap.1, jump_mem C.cut.simp.starts]
      simp only [hmem _ i1 i2 hmid, hmem _ i2 i1 hmid.flip]
    unfold jumpR at a1 a3
    omega
  have hz : c = 0 := by
    obtain ⟨cR, hc2, hside, hcv⟩ := C.two_counts hm
    have hne : R ≠ [] := by
      obtain ⟨s, hs, _⟩ := C.first hm
      have := (C.mem hm hs).1
      intro e
      rw [e] at this
      cases this
    obtain ⟨ar1, ar2⟩ := C.cut.simp.area hne hc2 hside hcv
    have hB : bpt x0 y0 w h (posB x0 y0 w h (B 0)) = B 0 := C.placeB hm
    have hf := C.fin_B hm hB
    have hf1 : finR x0 y0 w h R (posB x0 y0 w h (B 0)) = cR ∨ finR x0 y0 w h R (posB x0 y0 w h (B 0)) = cR - 1 := hcv _ _ (bd_lt _).1
    have hf2 : finR x0 y0 w h R (posB x0 y0 w h (B 0) - 1) = cR ∨ finR x0 y0 w h R (posB x0 y0 w h (B 0) - 1) = cR - 1 := hcv _ _ (bd_lt _).1
    have hcB : ¬ CornB x0 y0 w h (B 0) := by
      obtain ⟨s, hs, e⟩ := C.last hm
      rw [← e]
      exact C.cut.corner2 s (C.mem hm hs).1
    have hfst : (bpt x0 y0 w h (posB x0 y0 w h (B 0)), bpt x0 y0 w h (posB x0 y0 w h (B 0) + o)) ∈ U := hall 0 hm _ (List.mem_append_right _ (arc_first (K.pos 0 hm)))
    have hnb : (bpt x0 y0 w h (posB x0 y0 w h (B 0) + o), bpt x0 y0 w h (posB x0 y0 w h (B 0))) ∉ U := fun hb => by
      have e := nodup_inj hap.2 hfst hb (by unfold midS; simp only; refine Prod.ext ?_ ?_ <;> simp only <;> omega)
      obtain ⟨q, hq, e2⟩ := bstep_unit (x0 := x0) (y0 := y0) hw hh K.ho (posB x0 y0 w h (B 0))
      exact toK_ne _ q hq (e2.symm.trans (congrArg Prod.fst e).symm)
    generalize posB x0 y0 w h (B 0) = t at *
    rcases K.ho with rfl | rfl
    · have hO' : 0 < sumQ areaS R := by
        by_cases hq : 0 < sumQ areaS R
        · exact hq
        · rw [if_neg hq] at hO; cases hO
      have hc1 : cR = 1 := by
        rcases hc2 with e | e
        · have := ar2 e; omega
        · exact e
      have hF := (h2 t (by rw [hB]; exact hcB)).1
      have hU1 := hj (bpt x0 y0 w h t) (bd w h t) (bd_lt t).1
      rw [hbz t, jump_mem hap.1, ← bpt_next hw hh, if_pos hfst, if_neg hnb] at hU1
      unfold finR at hf hf1 hf2
      omega
    · have hO' : ¬ 0 < sumQ areaS R := by
        intro hq
        rw [if_pos hq] at hO; cases hO
      have hc1 : cR = 0 := by
        rcases hc2 with e | e
        · exact e
        · have := ar1 e; omega
      have hF := (h2 t (by rw [hB]; exact hcB)).2
      have hgeo : ∀ l, oK l (bpt x0 y0 w h (t - 1)) (bd w h (t - 1)) = oK l (bpt x0 y0 w h t) ((bd w h t + 3) % 8) := fun l => by
        have hb' := bd_lt (w := w) (h := h) (t - 1)
        rw [oK_geo l _ hb'.1 hb'.2, ← bpt_prev hw hh]
        rcases bd_prev (x0 := x0) (y0 := y0) (w := w) (h := h) hw hh t with ⟨_, e⟩ | ⟨h1, _⟩
        · rw [e]
        · rw [hB] at h1; exact absurd h1 hcB
      have hU1 := hj (bpt x0 y0 w h (t - 1)) (bd w h (t - 1)) (bd_lt _).1
      rw [show t + -1 = t - 1 by omega] at hfst hnb
      rw [hbz (t - 1), jump_mem hap.1, ← bpt_prev hw hh, if_neg hnb, if_pos hfst, hgeo] at hU1
      unfold finR at hf hf1 hf2
      rw [hgeo] at hf hf2
      omega
  have := h1 v hv k hk
  omega
end
end Go.Proofs.Ytafanlbfbfbeoaa

/- The machine of smartWrap comes to its end, and has made a ring of each round of rows. -/
namespace Go.Proofs.Ytafanlbfbfbeoaa

theorem chainN_mem {nx : Nat → Nat} : ∀ {L : List Nat} {a i j x : Nat}, ChainN nx i (L ++ [a]) j → x ∈ L ++ [a] → x = i ∨ ∃ b ∈ L, nx b = x
  | [], a, i, j, x, h, hx => by
    have := List.mem_singleton.1 hx
    subst this
    exact .inl h.1
  | b :: L, a, i, j, x, h, hx => by
    obtain ⟨rfl, h2⟩ := h
    rcases List.mem_cons.1 hx with rfl | hx'
    · exact .inl rfl
    · rcases chainN_mem h2 hx' with e | ⟨c, hc, e⟩
      · exact .inr ⟨b, by simp, e.symm⟩
      · exact .inr ⟨c, by simp [hc], e⟩

theorem chainN_snoc {nx : Nat → Nat} : ∀ {L : List Nat} {a i j : Nat}, ChainN nx i L a → j = nx a → ChainN nx i (L ++ [a]) j
  | [], _, _, _, h, e => by cases h; exact ⟨rfl, e.symm⟩
  | _ :: _, _, _, _, h, e => ⟨h.1, chainN_snoc h.2 e⟩

theorem chainN_end {nx : Nat → Nat} : ∀ {L : List Nat} {a i j : Nat}, ChainN nx i (L ++ [a]) j → ChainN nx i L a ∧ j = nx a
  | [], _, _, _, h => ⟨h.1.symm, h.2.symm⟩
  | _ :: _, _, _, _, h => ⟨⟨h.1, (chainN_end h.2).1⟩, (chainN_end h.2).2⟩

/-- In a round each is what follows on one of it. -/
theorem chainN_prev {nx : Nat → Nat} {L : List Nat} {i x : Nat} (h : ChainN nx i L i) (hx : x ∈ L) : ∃ b ∈ L, nx b = x := by
  rcases List.eq_nil_or_concat L with e | ⟨L', a, e⟩
  · subst e; cases hx
  · rw [List.concat_eq_append] at e
    subst e
    obtain ⟨h1, h2⟩ := chainN_end h
    rcases chainN_mem h hx with e | ⟨b, hb, e⟩
    · exact ⟨a, by simp, by rw [e, ← h2]⟩
    · exact ⟨b, by simp [hb], e⟩

/-- What is known of the order of the endpoints. -/
structure OrdOk (m : Nat) (d : Array Nat) (oe nx : Nat → Nat) : Prop where
  size : d.size = 2 * m
  ids : ∀ k, k < 2 * m → d[k]! < 2 * m
  mate : ∀ e, e < 2 * m → oe e < 2 * m ∧ d[oe e]! = mateE e
  next : ∀ k, k < 2 * m → d[k]! % 2 = 1 → d[(k + 1) % (2 * m)]! = 2 * nx (d[k]! / 2)
  nxlt : ∀ i, i < m → nx i < m
  nxinj : ∀ i j, i < m → j < m → nx i = nx j → i = j

theorem OrdOk.place {m : Nat} {d : Array Nat} {oe nx : Nat → Nat} (h : OrdOk m d oe nx) {e : Nat} (he : e < 2 * m) : ∃ k, k < 2 * m ∧ d[k]! = e := by
  have hm : mateE e < 2 * m := by unfold mateE; split <;> omega
  obtain ⟨h1, h2⟩ := h.mate _ hm
  refine ⟨_, h1, h2.trans ?_⟩
  unfold mateE
  (repeat' split) <;> omega

section
variable {o lx ly hx hy : Int} {rows : List (List (Int × Int))} {nx : Nat → Nat}

/-- A row, and the corners and middles behind it. -/
def rowBr (o lx ly hx hy : Int) (rows : List (List (Int × Int))) (nx : Nat → Nat) (i : Nat) : List (Int × Int) :=
  dbl rows[i]! ++ aroundL o lx ly hx hy (endE lx ly hx hy rows (2 * nx i)) (endE lx ly hx hy rows (2 * i + 1))

/-- The ring that a round makes. -/
def ringP (o lx ly hx hy : Int) (rows : List (List (Int × Int))) (nx : Nat → Nat) (L : List Nat) : List (Int × Int) :=
  L.flatMap (rowBr o lx ly hx hy rows nx) ++ [dblP (rows[L.head!]!.head!)]

/-- Rounds that are done. -/
structure DoneL (m : Nat) (nx : Nat → Nat) (Ls : List (List Nat)) : Prop where
  nodup : Ls.flatten.Nodup
  lt : ∀ i ∈ Ls.flatten, i < m
  round : ∀ L ∈ Ls, L ≠ [] ∧ ∃ i, ChainN nx i L i

/-- Between two rounds. -/
structure InvA (o lx ly hx hy : Int) (rows : List (List (Int × Int))) (m : Nat) (d : Array Nat) (nx : Nat → Nat) (Ls : List (List Nat)) (s : WSt) : Prop where
  done : DoneL m nx Ls
  cur : s.cur = []
  res : s.res = Ls.map (ringP o lx ly hx hy rows nx)
  used : ∀ e, e < 2 * m → s.used e = decide (e / 2 ∈ Ls.flatten)
  le : s.i ≤ 2 * (2 * m)
  seen : ∀ j, j < s.i → j < 2 * m → d[j]! % 2 = 1 → d[j]! / 2 ∈ Ls.flatten

/-- Within a round that begins with the row i0; a is the row that was added last. -/
structure InvB (o lx ly hx hy : Int) (rows : List (List (Int × Int))) (m : Nat) (d : Array Nat) (nx : Nat → Nat) (Ls : List (List Nat)) (i0 a : Nat) (L : List Nat) (s : WSt) : Prop where
  done : DoneL m nx Ls
  path : ChainN nx i0 L a
  lt : ∀ i ∈ L ++ [a], i < m
  nodup : (L ++ [a]).Nodup
  apart : ∀ i ∈ L ++ [a], i ∉ Ls.flatten
  cur : s.cur = L.flatMap (rowBr o lx ly hx hy rows nx) ++ dbl rows[a]!
  last : s.last = a
  res : s.res = Ls.map (ringP o lx ly hx hy rows nx)
  used : ∀ e, e < 2 * m → s.used e = decide (e / 2 ∈ Ls.flatten ∨ (e / 2 ∈ L ++ [a] ∧ e ≠ 2 * i0))
  at_ : ∃ k, k < 2 * m ∧ d[k]! = 2 * a + 1 ∧ s.i = k + 1

variable {m : Nat} {d : Array Nat} {oe : Nat → Nat}

theorem dbl_head {l : List (Int × Int)} (h : l ≠ []) : (dbl l).head! = dblP l.head! := by
  cases l with
  | nil => exact absurd rfl h
  | cons p l => rfl

theorem head_app {a b : List (Int × Int)} (h : a ≠ []) : (a ++ b).head! = a.head! := by
  cases a with
  | nil => exact absurd rfl h
  | cons p l => rfl

theorem InvB.head {Ls : List (List Nat)} {i0 a : Nat} {L : List Nat} {s : WSt} (I : InvB o lx ly hx hy rows m d nx Ls i0 a L s) (hne : ∀ i, i < m → rows[i]! ≠ []) : i0 < m ∧ s.cur ≠ [] ∧ s.cur.head! = dblP (rows[i0]!.head!) ∧ (L ++ [a]).head! = i0 := by
  have hd : ∀ i, i < m → dbl rows[i]! ≠ [] := fun i hi e => hne i hi (by simpa [dbl] using e)
  rw [I.cur]
  have hp := I.path
  have hl := I.lt
  cases L with
  | nil =>
    cases hp
    have ha := hl i0 (by simp)
    exact ⟨ha, by simpa using hd _ ha, by simpa using dbl_head (hne _ ha), rfl⟩
  | cons b L =>
    obtain ⟨rfl, -⟩ := hp
    have hb := hl b (by simp)
    refine ⟨hb, fun e => ?_, ?_, rfl⟩
    · rw [List.flatMap_cons, List.append_assoc, rowBr, List.append_assoc] at e
      exact hd b hb (List.append_eq_nil_iff.1 e).1
    rw [List.flatMap_cons, List.append_assoc, rowBr, List.append_assoc, head_app (hd b hb)]
    exact dbl_head (hne b hb)

/-- A row that follows on no row of a round that is done is in none. -/
theorem DoneL.closed {Ls : List (List Nat)} (D : DoneL m nx Ls) (O : OrdOk m d oe nx) {a : Nat} (ha : a < m) (hn : a ∉ Ls.flatten) : nx a ∉ Ls.flatten := fun h => by
  obtain ⟨L, hL, hx⟩ := List.mem_flatten.1 h
  obtain ⟨i, hc⟩ := (D.round L hL).2
  obtain ⟨b, hb, e⟩ := chainN_prev hc hx
  have hbm := D.lt b (List.mem_flatten.2 ⟨L, hL, hb⟩)
  have := O.nxinj _ _ hbm ha e
  subst this
  exact hn (List.mem_flatten.2 ⟨L, hL, hb⟩)

theorem len_le {l : List Nat} (hn : l.Nodup) (hl : ∀ i ∈ l, i < m) : l.length ≤ m := by
  have := hn.length_le_of_subset (l₂ := List.range m) fun i hi => List.mem_range.2 (hl i hi)
  simpa using this

theorem DoneL.len {Ls : List (List Nat)} (D : DoneL m nx Ls) : Ls.flatten.length ≤ m := len_le D.nodup D.lt

theorem InvB.both {Ls : List (List Nat)} {i0 a : Nat} {L : List Nat} {s : WSt} (I : InvB o lx ly hx hy rows m d nx Ls i0 a L s) : (Ls.flatten ++ (L ++ [a])).Nodup ∧ Ls.flatten.length + (L.length + 1) ≤ m := by
  have hn : (Ls.flatten ++ (L ++ [a])).Nodup := List.nodup_append.2 ⟨I.done.nodup, I.nodup, fun x hx y hy e => I.apart y hy (e ▸ hx)⟩
  refine ⟨hn, ?_⟩
  have := len_le hn fun i hi => (List.mem_append.1 hi).elim (I.done.lt i) (I.lt i)
  simpa using this

/-- One step between two rounds. -/
theorem stepA (O : OrdOk m d oe nx) {Ls : List (List Nat)} {s : WSt} (_hne : ∀ i, i < m → rows[i]! ≠ []) (I : InvA o lx ly hx hy rows m d nx Ls s) (hi : s.i < 2 * (2 * m)) :
    (InvA o lx ly hx hy rows m d nx Ls (stepW o lx ly hx hy rows d oe s) ∧ (stepW o lx ly hx hy rows d oe s).i = s.i + 1) ∨ ∃ a, InvB o lx ly hx hy rows m d nx Ls a a [] (stepW o lx ly hx hy rows d oe s) := by
  have hm : 0 < 2 * m := by omega
  have hmod : s.i % (2 * m) < 2 * m := Nat.mod_lt _ hm
  have he := O.ids _ hmod
  have hu := I.used _ he
  have hstop : ¬ 2 * d.size ≤ s.i := by rw [O.size]; omega
  have step1 : ∀ (hq : d[s.i % (2 * m)]! % 2 = 1 → d[s.i % (2 * m)]! / 2 ∈ Ls.flatten), InvA o lx ly hx hy rows m d nx Ls { s with i := s.i + 1 } := fun hq =>
    ⟨I.done, I.cur, I.res, I.used, by show s.i + 1 ≤ _; omega, fun j hj hjm hodd => by
      have hj : j < s.i + 1 := hj
      by_cases hjs : j < s.i
      · exact I.seen j hjs hjm hodd
      · have e : j = s.i := by omega
        subst e
        rw [Nat.mod_eq_of_lt hjm] at hq
        exact hq hodd⟩
  unfold stepW
  rw [if_neg hstop]
  simp only [O.size]
  by_cases h1 : s.used d[s.i % (2 * m)]! = true
  · rw [if_pos h1]
    rw [hu] at h1
    exact .inl ⟨step1 fun _ => of_decide_eq_true h1, rfl⟩
  · rw [if_neg h1]
    by_cases h2 : d[s.i % (2 * m)]! % 2 = 1
    · rw [if_pos h2, if_pos I.cur]
      right
      have hnf : d[s.i % (2 * m)]! / 2 ∉ Ls.flatten := fun h => h1 (by rw [hu]; exact decide_eq_true h)
      have hlt : s.i < 2 * m := by
        rcases Nat.lt_or_ge s.i (2 * m) with h | h
        · exact h
        · exact absurd (I.seen _ (by omega) hmod h2) hnf
      have hse : s.i % (2 * m) = s.i := Nat.mod_eq_of_lt hlt
      rw [hse] at h1 h2 hnf he hu ⊢
      obtain ⟨a, ha⟩ : ∃ a, d[s.i]! = 2 * a + 1 := ⟨d[s.i]! / 2, by omega⟩
      have ha2 : d[s.i]! / 2 = a := by omega
      rw [ha2] at hnf
      refine ⟨a, I.done, rfl, ?_, by simp, ?_, ?_, ha2, I.res, ?_, ⟨s.i, hlt, ha, rfl⟩⟩
      · intro i hi
        rw [List.nil_append, List.mem_singleton] at hi
        omega
      · intro i hi
        rw [List.nil_append, List.mem_singleton] at hi
        subst hi
        exact hnf
      · simp only [ha2, List.flatMap_nil, List.nil_append]
      · intro e he'
        simp only [ha]
        rw [I.used e he', List.nil_append]
        rw [Bool.eq_iff_iff]
        simp only [Bool.or_eq_true, decide_eq_true_eq, beq_iff_eq, List.mem_singleton]
        constructor
        · rintro (h | h)
          · exact .inl h
          · exact .inr (by omega)
        · rintro (h | h)
          · exact .inl h
          · exact .inr (by omega)
    · rw [if_neg h2, if_pos I.cur]
      exact .inl ⟨step1 fun h => absurd h h2, rfl⟩

/-- One step within a round. -/
theorem stepB (O : OrdOk m d oe nx) {Ls : List (List Nat)} {i0 a : Nat} {L : List Nat} {s : WSt} (hne : ∀ i, i < m → rows[i]! ≠ []) (hhd : ∀ i j, i < m → j < m → dblP (rows[i]!.head!) = dblP (rows[j]!.head!) → i = j)
    (I : InvB o lx ly hx hy rows m d nx Ls i0 a L s) :
    (InvA o lx ly hx hy rows m d nx (Ls ++ [L ++ [a]]) (stepW o lx ly hx hy rows d oe s) ∧ (stepW o lx ly hx hy rows d oe s).i = 0) ∨ InvB o lx ly hx hy rows m d nx Ls i0 (nx a) (L ++ [a]) (stepW o lx ly hx hy rows d oe s) := by
  obtain ⟨k, hk, hka, hsi⟩ := I.at_
  have hm : 0 < 2 * m := by omega
  obtain ⟨hi0, hcne, hch, hLh⟩ := I.head hne
  have ham : a < m := I.lt a (by simp)
  have haL : a ∉ L := fun h => by
    have := I.nodup
    rw [List.nodup_append] at this
    exact this.2.2 a h a (by simp) rfl
  have hnx : nx a < m := O.nxlt a ham
  have hnf := I.done.closed O ham (I.apart a (by simp))
  have hd := O.next k hk (by omega)
  rw [hka, show (2 * a + 1) / 2 = a by omega] at hd
  have hstop : ¬ 2 * d.size ≤ s.i := by rw [O.size]; omega
  have hmem : nx a ∈ L ++ [a] → nx a = i0 := fun h => by
    rcases chainN_mem (chainN_snoc I.path rfl) h with e | ⟨b, hb, e⟩
    · exact e
    · have := O.nxinj _ _ (I.lt b (by simp [hb])) ham e
      subst this
      exact absurd hb haL
  have hnu : s.used (2 * nx a) = false := by
    rw [I.used _ (by omega), decide_eq_false_iff_not, show 2 * nx a / 2 = nx a by omega]
    rintro (h | ⟨h1, h2⟩)
    · exact hnf h
    · exact h2 (by rw [hmem h1])
  unfold stepW
  rw [if_neg hstop]
  simp only [O.size]
  rw [hsi, hd, if_neg (by rw [hnu]; decide), if_neg (by omega), if_neg hcne, I.last, show 2 * nx a / 2 = nx a by omega, hch]
  by_cases hcl : dblP (rows[nx a]!.head!) = dblP (rows[i0]!.head!)
  · have hni := hhd _ _ hnx hi0 hcl
    rw [if_pos hcl]
    left
    refine ⟨⟨⟨?_, ?_, ?_⟩, rfl, ?_, ?_, Nat.zero_le _, fun j hj => absurd hj (Nat.not_lt_zero _)⟩, rfl⟩
    · rw [List.flatten_append]
      simpa using I.both.1
    · intro i hi
      rw [List.flatten_append] at hi
      rcases List.mem_append.1 hi with h | h
      · exact I.done.lt i h
      · exact I.lt i (by simpa using h)
    · intro M hM
      rcases List.mem_append.1 hM with h | h
      · exact I.done.round M h
      · rw [List.mem_singleton.1 h]
        exact ⟨by simp, i0, chainN_snoc I.path hni.symm⟩
    · simp only
      rw [I.res, List.map_append, List.map_singleton]
      congr 2
      unfold ringP
      rw [hLh, ← hni, I.cur, List.flatMap_append, List.flatMap_singleton]
      simp only [rowBr, List.append_assoc]
    · intro e he
      simp only
      rw [I.used e he, List.flatten_append, Bool.eq_iff_iff]
      simp only [Bool.or_eq_true, decide_eq_true_eq, beq_iff_eq, List.mem_append, List.flatten_cons, List.flatten_nil, List.not_mem_nil, or_false]
      constructor
      · rintro ((h | h) | h)
        · exact .inl h
        · exact .inr h.1
        · right
          rw [h, show 2 * nx a / 2 = nx a by omega, hni]
          have : i0 ∈ L ++ [a] := by
            have hp := I.path
            cases L with
            | nil => cases hp; simp
            | cons b L => rw [← hp.1]; simp
          exact List.mem_append.1 this
      · rintro (h | h)
        · exact .inl (.inl h)
        · by_cases e0 : e = 2 * nx a
          · exact .inr e0
          · exact .inl (.inr ⟨h, by omega⟩)
  · rw [if_neg hcl]
    right
    have hnL : nx a ∉ L ++ [a] := fun h => hcl (by rw [hmem h])
    have hni : nx a ≠ i0 := fun e => hcl (by rw [e])
    obtain ⟨hoe1, hoe2⟩ := O.mate (2 * nx a) (by omega)
    refine ⟨I.done, chainN_snoc I.path rfl, ?_, ?_, ?_, ?_, rfl, I.res, ?_, ⟨oe (2 * nx a), hoe1, ?_, rfl⟩⟩
    · intro i hi
      rcases List.mem_append.1 hi with h | h
      · exact I.lt i h
      · rw [List.mem_singleton.1 h]; exact hnx
    · rw [List.nodup_append]
      exact ⟨I.nodup, by simp, fun x hx y hy e => hnL (by rw [List.mem_singleton.1 hy] at e; rw [← e]; exact hx)⟩
    · intro i hi
      rcases List.mem_append.1 hi with h | h
      · exact I.apart i h
      · rw [List.mem_singleton.1 h]; exact hnf
    · simp only
      rw [I.cur, List.flatMap_append, List.flatMap_singleton]
      simp only [rowBr, List.append_assoc]
    · intro e he
      simp only
      rw [I.used e he, Bool.eq_iff_iff]
      simp only [Bool.or_eq_true, decide_eq_true_eq, beq_iff_eq, List.mem_append, List.mem_singleton]
      constructor
      · rintro (((h | h) | h) | h)
        · exact .inl h
        · exact .inr ⟨.inl h.1, h.2⟩
        · exact .inr ⟨.inr (by omega), by omega⟩
        · exact .inr ⟨.inr (by omega), by omega⟩
      · rintro (h | ⟨h | h, h2⟩)
        · exact .inl (.inl (.inl h))
        · exact .inl (.inl (.inr ⟨h, h2⟩))
        · have : e = 2 * nx a ∨ e = 2 * nx a + 1 := by omega
          rcases this with h | h
          · exact .inl (.inr h)
          · exact .inr h
    · rw [hoe2]
      unfold mateE
      rw [if_pos (by omega)]

/-- It comes to its end. -/
theorem run_ends (O : OrdOk m d oe nx) (hne : ∀ i, i < m → rows[i]! ≠ []) (hhd : ∀ i j, i < m → j < m → dblP (rows[i]!.head!) = dblP (rows[j]!.head!) → i = j) : ∀ (M : Nat) (s : WSt),
    ((∃ Ls, InvA o lx ly hx hy rows m d nx Ls s ∧ (m - Ls.flatten.length) * (4 * m + 2) + (4 * m - s.i) ≤ M) ∨ (∃ Ls i0 a L, InvB o lx ly hx hy rows m d nx Ls i0 a L s ∧ (m - (Ls.flatten.length + (L.length + 1))) * (4 * m + 2) + (4 * m + 1) ≤ M)) →
    ∃ K Ls, K ≤ M ∧ 4 * m ≤ (runW o lx ly hx hy rows d oe K s).i ∧ InvA o lx ly hx hy rows m d nx Ls (runW o lx ly hx hy rows d oe K s)
  | M, s, h => by
    rcases h with ⟨Ls, I, hM⟩ | ⟨Ls, i0, a, L, I, hM⟩
    · by_cases hi : s.i < 2 * (2 * m)
      · rcases stepA O hne I hi with ⟨I2, e⟩ | ⟨a, I2⟩
        · obtain ⟨M', rfl⟩ : ∃ M', M = M' + 1 := ⟨M - 1, by omega⟩
          obtain ⟨K, Ls', h1, h2, h3⟩ := run_ends O hne hhd M' _ (.inl ⟨Ls, I2, by rw [e]; omega⟩)
          exact ⟨K + 1, Ls', by omega, h2, h3⟩
        · obtain ⟨M', rfl⟩ : ∃ M', M = M' + 1 := ⟨M - 1, by omega⟩
          have hb := I2.both.2
          obtain ⟨K, Ls', h1, h2, h3⟩ := run_ends O hne hhd M' _ (.inr ⟨Ls, a, a, [], I2, by
            simp only [List.length_nil, Nat.zero_add] at hb ⊢
            obtain ⟨r, hr⟩ : ∃ r, m - Ls.flatten.length = r + 1 := ⟨m - Ls.flatten.length - 1, by omega⟩
            rw [hr, Nat.add_mul] at hM
            rw [show m - (Ls.flatten.length + 1) = r by omega]
            omega⟩)
          exact ⟨K + 1, Ls', by omega, h2, h3⟩
      · exact ⟨0, Ls, Nat.zero_le _, by show 4 * m ≤ s.i; omega, I⟩
    · have hb := I.both.2
      obtain ⟨M', rfl⟩ : ∃ M', M = M' + 1 := ⟨M - 1, by omega⟩
      rcases stepB O hne hhd I with ⟨I2, e⟩ | I2
      · obtain ⟨K, Ls', h1, h2, h3⟩ := run_ends O hne hhd M' _ (.inl ⟨_, I2, by
          rw [e, List.flatten_append]
          simp only [List.flatten_cons, List.flatten_nil, List.append_nil, List.length_append, List.length_singleton]
          omega⟩)
        exact ⟨K + 1, Ls', by omega, h2, h3⟩
      · have hb2 := I2.both.2
        obtain ⟨K, Ls', h1, h2, h3⟩ := run_ends O hne hhd M' _ (.inr ⟨Ls, i0, nx a, L ++ [a], I2, by
          simp only [List.length_append, List.length_singleton] at hb2 ⊢
          obtain ⟨r, hr⟩ : ∃ r, m - (Ls.flatten.length + (L.length + 1)) = r + 1 := ⟨m - (Ls.flatten.length + (L.length + 1)) - 1, by omega⟩
          rw [hr, Nat.add_mul] at hM
          rw [show m - (Ls.flatten.length + (L.length + 1 + 1)) = r by omega]
          omega⟩)
        exact ⟨K + 1, Ls', by omega, h2, h3⟩

/-- The machine, from its beginning to its end. -/
theorem run_all (O : OrdOk m d oe nx) (hne : ∀ i, i < m → rows[i]! ≠ []) (hhd : ∀ i j, i < m → j < m → dblP (rows[i]!.head!) = dblP (rows[j]!.head!) → i = j) :
    ∃ (K : Nat) (Ls : List (List Nat)), K ≤ m * (4 * m + 2) + 4 * m ∧ 4 * m ≤ (runW o lx ly hx hy rows d oe K initW).i ∧ (runW o lx ly hx hy rows d oe K initW).res = Ls.map (ringP o lx ly hx hy rows nx) ∧ (runW o lx ly hx hy rows d oe K initW).cur = [] ∧
      Ls.flatten.Perm (List.range m) ∧ ∀ L ∈ Ls, L ≠ [] ∧ ∃ i, ChainN nx i L i := by
  have I0 : InvA o lx ly hx hy rows m d nx [] initW := ⟨⟨by simp, by simp, by simp⟩, rfl, rfl, fun e _ => by simp [initW], Nat.zero_le _, fun j hj => absurd hj (Nat.not_lt_zero _)⟩
  obtain ⟨K, Ls, h1, h2, I⟩ := run_ends O hne hhd (m * (4 * m + 2) + 4 * m) initW (.inl ⟨[], I0, by simp [initW]⟩)
  refine ⟨K, Ls, h1, h2, I.res, I.cur, ?_, I.done.round⟩
  refine (List.perm_ext_iff_of_nodup I.done.nodup List.nodup_range).2 fun i => ⟨fun h => List.mem_range.2 (I.done.lt i h), fun h => ?_⟩
  have hi := List.mem_range.1 h
  obtain ⟨k, hk, hke⟩ := O.place (e := 2 * i + 1) (by omega)
  have := I.seen k (by omega) hk (by rw [hke]; omega)
  rw [hke, show (2 * i + 1) / 2 = i by omega] at this
  exact this
end
end Go.Proofs.Ytafanlbfbfbeoaa
