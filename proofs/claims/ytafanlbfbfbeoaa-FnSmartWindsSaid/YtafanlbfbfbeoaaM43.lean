/- What the proofs over smartclip lean on, part 44 of 48. -/
import Derived.Test.YtafanlbfbfbeoaaM39
import Derived.Test.YtafanlbfbfbeoaaM41
import Derived.Test.YtafanlbfbfbeoaaM42

/- The corners and middles between an end and the next beginning: a piece of the boundary, step by step. -/
namespace Go.Proofs.Ytafanlbfbfbeoaa

section
variable {x0 y0 w h o : Int}

/-- A straight piece. -/
theorem seg_arc {P d : Int × Int} {t : Int} {n : Nat} (hd : (d.1 = 0 ∧ (d.2 = 1 ∨ d.2 = -1)) ∨ (d.2 = 0 ∧ (d.1 = 1 ∨ d.1 = -1))) (hb : ∀ j : Nat, j ≤ n → bpt x0 y0 w h (t + o * (j : Int)) = ptK P d (j : Int)) :
    segS P (ptK P d (n : Int)) = arcS x0 y0 w h o t n := by
  by_cases hn : n = 0
  · subst hn
    have e : lenK P (ptK P d ((0 : Nat) : Int)) = 0 := by unfold lenK ptK; simp
    unfold segS arcS
    rw [e]; rfl
  have hl : lenK P (ptK P d (n : Int)) = n := by
    unfold lenK ptK
    rcases hd with ⟨a, b | b⟩ | ⟨a, b | b⟩ <;> rw [a, b] <;> simp only <;> omega
  have hdir : dirK P (ptK P d (n : Int)) = d := by
    unfold dirK ptK sgn
    refine Prod.ext ?_ ?_ <;> simp only <;> (rcases hd with ⟨a, b | b⟩ | ⟨a, b | b⟩ <;> (try rw [a]) <;> (try rw [b]) <;> omega)
  unfold segS arcS
  rw [hl, Int.toNat_natCast, hdir]
  refine List.map_congr_left fun k hk => ?_
  have hk := List.mem_range.1 hk
  have h1 := hb k (by omega)
  have h2 := hb (k + 1) (by omega)
  rw [Int.natCast_add, Int.natCast_one] at h2
  rw [h1, h2]

theorem arc_zero (t : Int) : arcS x0 y0 w h o t 0 = [] := rfl

theorem arc_join (t : Int) (m : Nat) : ∀ n : Nat, arcS x0 y0 w h o t (m + n) = arcS x0 y0 w h o t m ++ arcS x0 y0 w h o (t + o * (m : Int)) n
  | 0 => by rw [arc_zero, List.append_nil]; rfl
  | n + 1 => by
    rw [show m + (n + 1) = (m + n) + 1 by omega, arc_succ, arc_join t m n, arc_succ, List.append_assoc]
    have e1 : t + o * ((m + n : Nat) : Int) = t + o * (m : Int) + o * (n : Int) := by rw [Int.natCast_add, Int.mul_add]; omega
    have e2 : t + o * (((m + n : Nat) : Int) + 1) = t + o * (m : Int) + o * ((n : Int) + 1) := by rw [Int.natCast_add, Int.mul_add, Int.mul_add, Int.mul_add]; omega
    rw [e1, e2]
end

/-- The places of the corners and middles, to the left around; 0 is the corner at the top left. -/
def eR (a b r : Int) : Int := if r = 0 then 0 else if r = 1 then b else if r = 2 then 2 * b else if r = 3 then 2 * b + a else if r = 4 then 2 * b + 2 * a else if r = 5 then 3 * b + 2 * a else if r = 6 then 4 * b + 2 * a else 4 * b + 3 * a
def eK (a b k : Int) : Int := k / 8 * (4 * a + 4 * b) + eR a b (k % 8)
def cR (r : Int) : Int := if r = 0 then 9 else if r = 1 then 1 else if r = 2 then 5 else if r = 3 then 4 else if r = 4 then 6 else if r = 5 then 2 else if r = 6 then 10 else 8
def cK (k : Int) : Int := cR (k % 8)
def dR (r : Int) : Int × Int := if r = 0 then (0, -1) else if r = 2 then (1, 0) else if r = 4 then (0, 1) else (-1, 0)

theorem mod_next (k : Int) : (k % 8 < 7 ∧ (k + 1) % 8 = k % 8 + 1 ∧ (k + 1) / 8 = k / 8) ∨ (k % 8 = 7 ∧ (k + 1) % 8 = 0 ∧ (k + 1) / 8 = k / 8 + 1) := by omega

theorem eight_i {k : Int} : k % 8 = 0 ∨ k % 8 = 1 ∨ k % 8 = 2 ∨ k % 8 = 3 ∨ k % 8 = 4 ∨ k % 8 = 5 ∨ k % 8 = 6 ∨ k % 8 = 7 := by omega

/-- How far it is to the next one. -/
def lK (a b k : Int) : Int := if k % 8 = 0 ∨ k % 8 = 1 ∨ k % 8 = 4 ∨ k % 8 = 5 then b else a

theorem eK_next (a b k : Int) : eK a b (k + 1) = eK a b k + lK a b k := by
  unfold eK lK
  rcases mod_next k with ⟨h1, h2, h3⟩ | ⟨h1, h2, h3⟩
  · rw [h2, h3]
    generalize k / 8 * (4 * a + 4 * b) = Q
    have h8 := @eight_i k
    generalize k % 8 = r at *
    rcases h8 with rfl | rfl | rfl | rfl | rfl | rfl | rfl | rfl <;> simp [eR] <;> omega
  · rw [h1, h2, h3, Int.add_mul]
    generalize k / 8 * (4 * a + 4 * b) = Q
    simp [eR]; omega

theorem cK_next (k : Int) : nextI 1 (cK k) = cK (k + 1) := by
  unfold cK
  rcases mod_next k with ⟨h1, h2, h3⟩ | ⟨h1, h2, h3⟩
  · rw [h2]
    have h8 := @eight_i k
    generalize k % 8 = r at *
    rcases h8 with rfl | rfl | rfl | rfl | rfl | rfl | rfl | rfl <;> first | rfl | omega
  · rw [h1, h2]; rfl

theorem cK_prev (k : Int) : nextI (-1) (cK k) = cK (k + -1) := by
  have h := mod_next (k + -1)
  rw [show k + -1 + 1 = k by omega] at h
  unfold cK
  rcases h with ⟨h1, h2, h3⟩ | ⟨h1, h2, h3⟩
  · rw [h2]
    have h8 := @eight_i (k + -1)
    generalize (k + -1) % 8 = r at *
    rcases h8 with rfl | rfl | rfl | rfl | rfl | rfl | rfl | rfl <;> first | rfl | omega
  · rw [h1, h2]; rfl

theorem cK_go {o : Int} (ho : o = 1 ∨ o = -1) (k : Int) : nextI o (cK k) = cK (k + o) := by
  rcases ho with rfl | rfl
  · exact cK_next k
  · exact cK_prev k

theorem cR_inj : ∀ r : Nat, r < 8 → ∀ s : Nat, s < 8 → cR r = cR s → r = s := by decide

theorem cK_inj {k k' : Int} (h : cK k = cK k') : k % 8 = k' % 8 := by
  have := cR_inj (k % 8).toNat (by omega) (k' % 8).toNat (by omega) (by rw [Int.toNat_of_nonneg (by omega), Int.toNat_of_nonneg (by omega)]; exact h)
  omega

/-- The codes that are walked. -/
theorem walk_list {o : Int} (ho : o = 1 ∨ o = -1) : ∀ (m f : Nat) (k : Int), m ≤ f → m < 8 → walkB o (cK (k + o * (m : Int))) f (cK k) = (List.range m).map fun j : Nat => cK (k + o * (j : Int))
  | 0, f, k, _, _ => by simp [walkB_stop]
  | m + 1, 0, k, h, _ => by omega
  | m + 1, f + 1, k, h, h8 => by
    have hne : cK k ≠ cK (k + o * ((m + 1 : Nat) : Int)) := fun e => by
      have := cK_inj e
      rcases ho with rfl | rfl <;> omega
    have ih := walk_list ho m f (k + o) (by omega) (by omega)
    have e1 : k + o * ((m + 1 : Nat) : Int) = k + o + o * (m : Int) := by rcases ho with rfl | rfl <;> omega
    rw [walkB_step _ _ _ _ hne, cK_go ho, e1, ih, List.range_succ_eq_map, List.map_cons, List.map_map]
    congr 1
    · simp
    · refine List.map_congr_left fun j _ => ?_
      show cK (k + o + o * (j : Int)) = cK (k + o * ((j + 1 : Nat) : Int))
      congr 1
      rcases ho with rfl | rfl <;> omega

section
variable {lx ly hx hy : Int}

theorem pt_eK (h1 : lx < hx) (h2 : ly < hy) {k s : Int} (hk : k % 2 = 0) (hs : 0 ≤ s ∧ s ≤ 2 * lK (hx - lx) (hy - ly) k) :
    bpt (2 * lx) (2 * ly) (2 * (hx - lx)) (2 * (hy - ly)) (eK (hx - lx) (hy - ly) k + s) = ptK (pointI lx ly hx hy (cK k)) (dR (k % 8)) s := by
  have hP : 2 * (2 * (hx - lx) + 2 * (hy - ly)) = 4 * (hx - lx) + 4 * (hy - ly) := by omega
  have e0 : (eK (hx - lx) (hy - ly) k + s) % (4 * (hx - lx) + 4 * (hy - ly)) = (eR (hx - lx) (hy - ly) (k % 8) + s) % (4 * (hx - lx) + 4 * (hy - ly)) := by
    unfold eK
    rw [show k / 8 * (4 * (hx - lx) + 4 * (hy - ly)) + eR (hx - lx) (hy - ly) (k % 8) + s = eR (hx - lx) (hy - ly) (k % 8) + s + k / 8 * (4 * (hx - lx) + 4 * (hy - ly)) by omega, Int.add_mul_emod_self_right]
  unfold bpt
  rw [hP, e0]
  unfold cK
  unfold lK at hs
  have h8 : k % 8 = 0 ∨ k % 8 = 2 ∨ k % 8 = 4 ∨ k % 8 = 6 := by omega
  clear e0 hP
  generalize k % 8 = r at *
  rcases h8 with rfl | rfl | rfl | rfl
  · simp [eR] at hs ⊢
    rw [Int.emod_eq_of_lt (by omega) (by omega)]
    unfold bq pointI ptK
    refine Prod.ext ?_ ?_ <;> simp [cR, dR] <;> (repeat' split) <;> simp only <;> omega
  · simp [eR] at hs ⊢
    rw [Int.emod_eq_of_lt (by omega) (by omega)]
    unfold bq pointI ptK
    refine Prod.ext ?_ ?_ <;> simp [cR, dR] <;> (repeat' split) <;> simp only <;> omega
  · simp [eR] at hs ⊢
    rw [Int.emod_eq_of_lt (by omega) (by omega)]
    unfold bq pointI ptK
    refine Prod.ext ?_ ?_ <;> simp [cR, dR] <;> (repeat' split) <;> simp only <;> omega
  · simp [eR] at hs ⊢
    by_cases hz : s = 2 * (hx - lx)
    · rw [show 4 * (hy - ly) + 2 * (hx - lx) + s = 4 * (hx - lx) + 4 * (hy - ly) by omega, Int.emod_self]
      unfold bq pointI ptK
      refine Prod.ext ?_ ?_ <;> simp [cR, dR] <;> (repeat' split) <;> simp only <;> omega
    · rw [Int.emod_eq_of_lt (by omega) (by omega)]
      unfold bq pointI ptK
      refine Prod.ext ?_ ?_ <;> simp [cR, dR] <;> (repeat' split) <;> simp only <;> omega

theorem eK_two {a b k : Int} (hk : k % 2 = 0) : eK a b (k + 2) = eK a b k + 2 * lK a b k := by
  rw [show k + 2 = k + 1 + 1 by omega, eK_next, eK_next]
  have e : lK a b (k + 1) = lK a b k := by
    unfold lK
    have h8 : (k % 8 = 0 ∧ (k + 1) % 8 = 1) ∨ (k % 8 = 2 ∧ (k + 1) % 8 = 3) ∨ (k % 8 = 4 ∧ (k + 1) % 8 = 5) ∨ (k % 8 = 6 ∧ (k + 1) % 8 = 7) := by omega
    rcases h8 with ⟨e1, e2⟩ | ⟨e1, e2⟩ | ⟨e1, e2⟩ | ⟨e1, e2⟩ <;> rw [e1, e2] <;> rfl
  omega

theorem eK_round (a b k : Int) : eK a b (k + 8) = eK a b k + (4 * a + 4 * b) := by
  unfold eK
  rw [show (k + 8) / 8 = k / 8 + 1 by omega, show (k + 8) % 8 = k % 8 by omega, Int.add_mul]
  omega

/-- Each corner and middle, at its place. -/
theorem pt_code (h1 : lx < hx) (h2 : ly < hy) (k : Int) : bpt (2 * lx) (2 * ly) (2 * (hx - lx)) (2 * (hy - ly)) (eK (hx - lx) (hy - ly) k) = pointI lx ly hx hy (cK k) := by
  by_cases hk : k % 2 = 0
  · have hl : 0 ≤ lK (hx - lx) (hy - ly) k := by unfold lK; split <;> omega
    have := pt_eK h1 h2 hk (s := 0) ⟨Int.le_refl _, by omega⟩
    rw [Int.add_zero, pt_zero] at this
    exact this
  · have hl : 0 ≤ lK (hx - lx) (hy - ly) (k - 1) := by unfold lK; split <;> omega
    have := pt_eK h1 h2 (k := k - 1) (s := lK (hx - lx) (hy - ly) (k - 1)) (by omega) ⟨by omega, by omega⟩
    rw [← eK_next, show k - 1 + 1 = k by omega] at this
    rw [this]
    have h8 : ((k - 1) % 8 = 0 ∧ k % 8 = 1) ∨ ((k - 1) % 8 = 2 ∧ k % 8 = 3) ∨ ((k - 1) % 8 = 4 ∧ k % 8 = 5) ∨ ((k - 1) % 8 = 6 ∧ k % 8 = 7) := by omega
    unfold cK lK
    clear this hl
    rcases h8 with ⟨e1, e2⟩ | ⟨e1, e2⟩ | ⟨e1, e2⟩ | ⟨e1, e2⟩ <;> rw [e1, e2] <;> unfold pointI ptK <;> refine Prod.ext ?_ ?_ <;> simp [cR, dR] <;> omega

/-- On one side of the box, one way. -/
def NearK (o a b t t' : Int) : Prop := (∃ k, k % 2 = 0 ∧ (eK a b k ≤ t ∧ t ≤ eK a b (k + 2)) ∧ eK a b k ≤ t' ∧ t' ≤ eK a b (k + 2)) ∧ 0 ≤ o * (t' - t)

theorem dR_dir {k : Int} (hk : k % 2 = 0) : ((dR (k % 8)).1 = 0 ∧ ((dR (k % 8)).2 = 1 ∨ (dR (k % 8)).2 = -1)) ∨ ((dR (k % 8)).2 = 0 ∧ ((dR (k % 8)).1 = 1 ∨ (dR (k % 8)).1 = -1)) := by
  have h8 : k % 8 = 0 ∨ k % 8 = 2 ∨ k % 8 = 4 ∨ k % 8 = 6 := by omega
  rcases h8 with e | e | e | e <;> rw [e] <;> simp [dR]

theorem seg_side (h1 : lx < hx) (h2 : ly < hy) {o t t' : Int} (ho : o = 1 ∨ o = -1) (h : NearK o (hx - lx) (hy - ly) t t') :
    segS (bpt (2 * lx) (2 * ly) (2 * (hx - lx)) (2 * (hy - ly)) t) (bpt (2 * lx) (2 * ly) (2 * (hx - lx)) (2 * (hy - ly)) t') = arcS (2 * lx) (2 * ly) (2 * (hx - lx)) (2 * (hy - ly)) o t (o * (t' - t)).toNat := by
  obtain ⟨⟨k, hk, ⟨a1, a2⟩, a3, a4⟩, hp⟩ := h
  have hpt : ∀ u, eK (hx - lx) (hy - ly) k ≤ u → u ≤ eK (hx - lx) (hy - ly) (k + 2) → bpt (2 * lx) (2 * ly) (2 * (hx - lx)) (2 * (hy - ly)) u = ptK (pointI lx ly hx hy (cK k)) (dR (k % 8)) (u - eK (hx - lx) (hy - ly) k) := fun u u1 u2 => by
    rw [eK_two hk] at u2
    have := pt_eK h1 h2 hk (s := u - eK (hx - lx) (hy - ly) k) ⟨by omega, by omega⟩
    rw [← this]
    congr 1
    omega
  have hd := dR_dir hk
  generalize dR (k % 8) = d at *
  generalize pointI lx ly hx hy (cK k) = Q at *
  generalize eK (hx - lx) (hy - ly) k = e at *
  generalize eK (hx - lx) (hy - ly) (k + 2) = e' at *
  have hsg := seg_arc (x0 := 2 * lx) (y0 := 2 * ly) (w := 2 * (hx - lx)) (h := 2 * (hy - ly)) (o := o) (P := bpt (2 * lx) (2 * ly) (2 * (hx - lx)) (2 * (hy - ly)) t) (d := (o * d.1, o * d.2)) (t := t) (n := (o * (t' - t)).toNat)
    (by simp only; rcases ho with rfl | rfl <;> omega)
    (fun j hj => by
      rw [hpt t a1 a2, hpt (t + o * j) (by rcases ho with rfl | rfl <;> omega) (by rcases ho with rfl | rfl <;> omega)]
      unfold ptK
      have x1 : (t + o * (j : Int) - e) * d.1 = (t - e) * d.1 + (j : Int) * (o * d.1) := by rw [show t + o * (j : Int) - e = (t - e) + (j : Int) * o by rw [Int.mul_comm o]; omega, Int.add_mul, Int.mul_assoc]
      have x2 : (t + o * (j : Int) - e) * d.2 = (t - e) * d.2 + (j : Int) * (o * d.2) := by rw [show t + o * (j : Int) - e = (t - e) + (j : Int) * o by rw [Int.mul_comm o]; omega, Int.add_mul, Int.mul_assoc]
      refine Prod.ext ?_ ?_ <;> simp only
      · rw [x1]; omega
      · rw [x2]; omega)
  rw [← hsg]
  congr 1
  rw [hpt t a1 a2, hpt t' a3 a4, Int.toNat_of_nonneg hp]
  unfold ptK
  have hoo : o * (t' - t) * o = t' - t := by rcases ho with rfl | rfl <;> omega
  have x1 : (t' - e) * d.1 = (t - e) * d.1 + o * (t' - t) * (o * d.1) := by rw [← Int.mul_assoc, hoo, ← Int.add_mul]; congr 1; omega
  have x2 : (t' - e) * d.2 = (t - e) * d.2 + o * (t' - t) * (o * d.2) := by rw [← Int.mul_assoc, hoo, ← Int.add_mul]; congr 1; omega
  refine Prod.ext ?_ ?_ <;> simp only
  · rw [x1]; omega
  · rw [x2]; omega

theorem octi_side (h1 : lx < hx) (h2 : ly < hy) {o t t' : Int} (h : NearK o (hx - lx) (hy - ly) t t') : Octi (bpt (2 * lx) (2 * ly) (2 * (hx - lx)) (2 * (hy - ly)) t) (bpt (2 * lx) (2 * ly) (2 * (hx - lx)) (2 * (hy - ly)) t') := by
  obtain ⟨⟨k, hk, ⟨a1, a2⟩, a3, a4⟩, -⟩ := h
  rw [eK_two hk] at a2 a4
  have e1 := pt_eK h1 h2 hk (s := t - eK (hx - lx) (hy - ly) k) ⟨by omega, by omega⟩
  have e2 := pt_eK h1 h2 hk (s := t' - eK (hx - lx) (hy - ly) k) ⟨by omega, by omega⟩
  rw [show eK (hx - lx) (hy - ly) k + (t - eK (hx - lx) (hy - ly) k) = t by omega] at e1
  rw [show eK (hx - lx) (hy - ly) k + (t' - eK (hx - lx) (hy - ly) k) = t' by omega] at e2
  rw [e1, e2]
  unfold Octi ptK
  rcases dR_dir hk with ⟨h, -⟩ | ⟨h, -⟩ <;> rw [h] <;> simp

def PathK (o a b : Int) : Int → List Int → Prop
  | _, [] => True
  | t, u :: l => NearK o a b t u ∧ PathK o a b u l

def lastI : Int → List Int → Int
  | t, [] => t
  | _, u :: l => lastI u l

theorem lastI_snoc (u : Int) : ∀ (l : List Int) (t : Int), lastI t (l ++ [u]) = u
  | [], _ => rfl
  | _ :: l, _ => lastI_snoc u l _

theorem path_steps (h1 : lx < hx) (h2 : ly < hy) {o : Int} (ho : o = 1 ∨ o = -1) : ∀ (l : List Int) (t : Int), PathK o (hx - lx) (hy - ly) t l → 0 ≤ o * (lastI t l - t) ∧
    stepsR (bpt (2 * lx) (2 * ly) (2 * (hx - lx)) (2 * (hy - ly)) t) (l.map (bpt (2 * lx) (2 * ly) (2 * (hx - lx)) (2 * (hy - ly)))) = arcS (2 * lx) (2 * ly) (2 * (hx - lx)) (2 * (hy - ly)) o t (o * (lastI t l - t)).toNat ∧
    OctiL (bpt (2 * lx) (2 * ly) (2 * (hx - lx)) (2 * (hy - ly)) t) (l.map (bpt (2 * lx) (2 * ly) (2 * (hx - lx)) (2 * (hy - ly))))
  | [], t, _ => by
    have e : o * (lastI t [] - t) = 0 := by show o * (t - t) = 0; rw [Int.sub_self, Int.mul_zero]
    rw [e]
    exact ⟨Int.le_refl _, rfl, trivial⟩
  | u :: l, t, h => by
    obtain ⟨i1, i2, i3⟩ := path_steps h1 h2 ho l u h.2
    have hn := h.1.2
    have e1 : o * (lastI t (u :: l) - t) = o * (u - t) + o * (lastI u l - u) := by
      show o * (lastI u l - t) = _
      rw [← Int.mul_add]; congr 1; omega
    rw [e1]
    refine ⟨by omega, ?_, octi_side h1 h2 h.1, i3⟩
    rw [Int.toNat_add hn i1, arc_join, List.map_cons, stepsR, seg_side h1 h2 ho h.1, i2]
    congr 2
    rw [Int.toNat_of_nonneg hn]
    rcases ho with rfl | rfl <;> omega

theorem near_next {o a b k : Int} (ha : 0 < a) (hb : 0 < b) (ho : o = 1 ∨ o = -1) : NearK o a b (eK a b k) (eK a b (k + o)) := by
  have hl : ∀ j, 0 < lK a b j := fun j => by unfold lK; split <;> omega
  have n0 := eK_next a b k
  have n1 := eK_next a b (k + 1)
  have m1 := eK_next a b (k - 1)
  have m2 := eK_next a b (k - 2)
  have l0 := hl k
  have l1 := hl (k + 1)
  have l2 := hl (k - 1)
  have l3 := hl (k - 2)
  rw [show k - 1 + 1 = k by omega] at m1
  rw [show k - 2 + 1 = k - 1 by omega] at m2
  rw [show k + 1 + 1 = k + 2 by omega] at n1
  rcases ho with rfl | rfl
  · refine ⟨?_, by omega⟩
    by_cases hk : k % 2 = 0
    · exact ⟨k, hk, by omega, by omega⟩
    · exact ⟨k - 1, by omega, by rw [show k - 1 + 2 = k + 1 by omega]; omega, by rw [show k - 1 + 2 = k + 1 by omega]; omega⟩
  · rw [show k + -1 = k - 1 by omega]
    refine ⟨?_, by omega⟩
    by_cases hk : k % 2 = 0
    · exact ⟨k - 2, by omega, by rw [show k - 2 + 2 = k by omega]; omega, by rw [show k - 2 + 2 = k by omega]; omega⟩
    · exact ⟨k - 1, by omega, by rw [show k - 1 + 2 = k + 1 by omega]; omega, by rw [show k - 1 + 2 = k + 1 by omega]; omega⟩

theorem path_list {o a b tA : Int} (ha : 0 < a) (hb : 0 < b) (ho : o = 1 ∨ o = -1) : ∀ (m : Nat) (k t : Int), NearK o a b t (eK a b k) → NearK o a b (eK a b (k + o * (m : Int))) tA → PathK o a b t (((List.range (m + 1)).map fun j : Nat => eK a b (k + o * (j : Int))) ++ [tA])
  | 0, k, t, h, h' => by
    have e : k + o * ((0 : Nat) : Int) = k := by simp
    rw [e] at h'
    show PathK o a b t ([eK a b (k + o * ((0 : Nat) : Int))] ++ [tA])
    rw [e]
    exact ⟨h, h', trivial⟩
  | m + 1, k, t, h, h' => by
    rw [List.range_succ_eq_map, List.map_cons, List.map_map, List.cons_append]
    have e : k + o * ((0 : Nat) : Int) = k := by simp
    have ih := path_list ha hb ho m (k + o) (eK a b k) (near_next ha hb ho) (by rw [show k + o + o * (m : Int) = k + o * ((m + 1 : Nat) : Int) by rcases ho with rfl | rfl <;> omega]; exact h')
    refine ⟨by rw [e]; exact h, ?_⟩
    rw [e]
    have e2 : ((fun j : Nat => eK a b (k + o * (j : Int))) ∘ Nat.succ) = fun j : Nat => eK a b (k + o + o * (j : Int)) := by
      funext j
      show eK a b (k + o * ((j + 1 : Nat) : Int)) = _
      congr 1
      rcases ho with rfl | rfl <;> omega
    rw [e2]
    exact ih

/-- From a place on a side, by the corners and middles, to a place on a side. -/
theorem walk_arc (h1 : lx < hx) (h2 : ly < hy) {o q tA kB kA : Int} (ho : o = 1 ∨ o = -1) {m : Nat} (hk : kB % 2 = 1) (hA : kA % 2 = 1) (hm : m + 1 < 8) (hkm : kA = kB + o * ((m : Int) + 2))
    (hq : eK (hx - lx) (hy - ly) (kB - 1) < q ∧ q < eK (hx - lx) (hy - ly) (kB + 1)) (ht : eK (hx - lx) (hy - ly) (kA - 1) < tA ∧ tA < eK (hx - lx) (hy - ly) (kA + 1)) :
    0 ≤ o * (tA - q) ∧ stepsR (bpt (2 * lx) (2 * ly) (2 * (hx - lx)) (2 * (hy - ly)) q) ((walkB o (cK kA) 8 (nextI o (cK kB))).map (pointI lx ly hx hy) ++ [bpt (2 * lx) (2 * ly) (2 * (hx - lx)) (2 * (hy - ly)) tA]) = arcS (2 * lx) (2 * ly) (2 * (hx - lx)) (2 * (hy - ly)) o q (o * (tA - q)).toNat ∧ OctiL (bpt (2 * lx) (2 * ly) (2 * (hx - lx)) (2 * (hy - ly)) q) ((walkB o (cK kA) 8 (nextI o (cK kB))).map (pointI lx ly hx hy) ++ [bpt (2 * lx) (2 * ly) (2 * (hx - lx)) (2 * (hy - ly)) tA]) := by
  have hl : ∀ j, 0 < lK (hx - lx) (hy - ly) j := fun j => by unfold lK; split <;> omega
  have hw := walk_list ho (m + 1) 8 (kB + o) (by omega) hm
  rw [show kB + o + o * ((m + 1 : Nat) : Int) = kA by rw [hkm]; rcases ho with rfl | rfl <;> omega] at hw
  rw [cK_go ho, hw, List.map_map]
  have e1 : ((List.range (m + 1)).map ((pointI lx ly hx hy) ∘ fun j : Nat => cK (kB + o + o * (j : Int)))) ++ [bpt (2 * lx) (2 * ly) (2 * (hx - lx)) (2 * (hy - ly)) tA] =
      (((List.range (m + 1)).map fun j : Nat => eK (hx - lx) (hy - ly) (kB + o + o * (j : Int))) ++ [tA]).map (bpt (2 * lx) (2 * ly) (2 * (hx - lx)) (2 * (hy - ly))) := by
    rw [List.map_append, List.map_map]
    congr 1
    exact List.map_congr_left fun j _ => (pt_code h1 h2 _).symm
  rw [e1]
  have hp := path_list (a := hx - lx) (b := hy - ly) (tA := tA) (by omega) (by omega) ho m (kB + o) q
    (by
      refine ⟨⟨kB - 1, by omega, by rw [show kB - 1 + 2 = kB + 1 by omega]; omega, ?_⟩, ?_⟩
      · rw [show kB - 1 + 2 = kB + 1 by omega]
        rcases ho with rfl | rfl
        · omega
        · rw [show kB + -1 = kB - 1 by omega]; omega
      · rcases ho with rfl | rfl
        · omega
        · rw [show kB + -1 = kB - 1 by omega]; omega)
    (by
      refine ⟨⟨kA - 1, by omega, ?_, by rw [show kA - 1 + 2 = kA + 1 by omega]; omega⟩, ?_⟩
      · rw [show kA - 1 + 2 = kA + 1 by omega]
        rcases ho with rfl | rfl
        · rw [show kB + 1 + 1 * (m : Int) = kA - 1 by omega]; omega
        · rw [show kB + -1 + -1 * (m : Int) = kA + 1 by omega]; omega
      · rcases ho with rfl | rfl
        · rw [show kB + 1 + 1 * (m : Int) = kA - 1 by omega]; omega
        · rw [show kB + -1 + -1 * (m : Int) = kA + 1 by omega]; omega)
  have := path_steps h1 h2 ho _ _ hp
  rw [lastI_snoc] at this
  exact this

theorem eK_vals (a b : Int) : eK a b 0 = 0 ∧ eK a b 2 = 2 * b ∧ eK a b 4 = 2 * b + 2 * a ∧ eK a b 6 = 4 * b + 2 * a ∧ eK a b 8 = 4 * b + 4 * a := by
  refine ⟨?_, ?_, ?_, ?_, ?_⟩ <;> simp [eK, eR] <;> omega

theorem side_eK {p : Int × Int} {s : Nat} {q : Int} (h1 : lx < hx) (h2 : ly < hy) (h : SideAt lx ly hx hy p s q) :
    (eK (hx - lx) (hy - ly) (2 * s - 1 - 1) < q ∧ q < eK (hx - lx) (hy - ly) (2 * s - 1 + 1)) ∧ midC s = cK (2 * s - 1) ∧ (1 ≤ s ∧ s ≤ 4) ∧ 0 < q ∧ q < 4 * (hx - lx) + 4 * (hy - ly) := by
  obtain ⟨v0, v2, v4, v6, v8⟩ := eK_vals (hx - lx) (hy - ly)
  rcases h with ⟨rfl, a1, a2, a3⟩ | ⟨rfl, a1, a2, a3⟩ | ⟨rfl, a1, a2, a3⟩ | ⟨rfl, a1, a2, a3⟩
  · rw [show 2 * ((1 : Nat) : Int) - 1 - 1 = 0 by omega, show 2 * ((1 : Nat) : Int) - 1 + 1 = 2 by omega, v0, v2]
    exact ⟨by omega, rfl, by omega, by omega⟩
  · rw [show 2 * ((2 : Nat) : Int) - 1 - 1 = 2 by omega, show 2 * ((2 : Nat) : Int) - 1 + 1 = 4 by omega, v2, v4]
    exact ⟨by omega, rfl, by omega, by omega⟩
  · rw [show 2 * ((3 : Nat) : Int) - 1 - 1 = 4 by omega, show 2 * ((3 : Nat) : Int) - 1 + 1 = 6 by omega, v4, v6]
    exact ⟨by omega, rfl, by omega, by omega⟩
  · rw [show 2 * ((4 : Nat) : Int) - 1 - 1 = 6 by omega, show 2 * ((4 : Nat) : Int) - 1 + 1 = 8 by omega, v6, v8]
    exact ⟨by omega, rfl, by omega, by omega⟩

theorem bpt_round {x0 y0 w h : Int} (t : Int) : bpt x0 y0 w h (t + 2 * (w + h)) = bpt x0 y0 w h t := by unfold bpt; rw [Int.add_emod_right]

theorem eK_lt {a b : Int} (ha : 0 < a) (hb : 0 < b) {s s' : Nat} (h1 : 1 ≤ s) (h : s < s') (h2 : s' ≤ 4) : eK a b (2 * s - 1 + 1) ≤ eK a b (2 * s' - 1 - 1) := by
  obtain ⟨v0, v2, v4, v6, v8⟩ := eK_vals a b
  have c : (s = 1 ∧ s' = 2) ∨ (s = 1 ∧ s' = 3) ∨ (s = 1 ∧ s' = 4) ∨ (s = 2 ∧ s' = 3) ∨ (s = 2 ∧ s' = 4) ∨ (s = 3 ∧ s' = 4) := by omega
  rcases c with ⟨rfl, rfl⟩ | ⟨rfl, rfl⟩ | ⟨rfl, rfl⟩ | ⟨rfl, rfl⟩ | ⟨rfl, rfl⟩ | ⟨rfl, rfl⟩
  · exact Int.le_refl _
  · show eK a b 2 ≤ eK a b 4; omega
  · show eK a b 2 ≤ eK a b 6; omega
  · exact Int.le_refl _
  · show eK a b 4 ≤ eK a b 6; omega
  · exact Int.le_refl _

theorem before_iff {o : Int} (h1 : lx < hx) (h2 : ly < hy) (ho : o = 1 ∨ o = -1) {p p' : Int × Int} {s s' : Nat} {q q' : Int} (hp : Sm p.1 ∧ Sm p.2) (hp' : Sm p'.1 ∧ Sm p'.2) (hB : SideAt lx ly hx hy p s q) (hA : SideAt lx ly hx hy p' s' q') (st st' : Bool) (i i' : Nat) :
    beforeE o ⟨p.1, p.2, st, s, i⟩ ⟨p'.1, p'.2, st', s', i'⟩ ↔ 0 < o * (q' - q) := by
  unfold beforeE
  rcases ho with rfl | rfl
  · rw [if_pos rfl, side_lt h1 h2 hp hp' hB hA]; omega
  · rw [if_neg (by decide), side_lt h1 h2 hp' hp hA hB]; omega

theorem around_arc {o : Int} (h1 : lx < hx) (h2 : ly < hy) (ho : o = 1 ∨ o = -1) {p p' : Int × Int} {s s' : Nat} {q q' : Int} (hp : Sm p.1 ∧ Sm p.2) (hp' : Sm p'.1 ∧ Sm p'.2) (hB : SideAt lx ly hx hy p s q) (hA : SideAt lx ly hx hy p' s' q') (st st' : Bool) (i i' : Nat) :
    ∃ n : Nat, 0 < n ∧ (n : Int) ≤ 4 * (hx - lx) + 4 * (hy - ly) ∧ bpt (2 * lx) (2 * ly) (2 * (hx - lx)) (2 * (hy - ly)) (q + o * (n : Int)) = bpt (2 * lx) (2 * ly) (2 * (hx - lx)) (2 * (hy - ly)) q' ∧
      stepsR (bpt (2 * lx) (2 * ly) (2 * (hx - lx)) (2 * (hy - ly)) q) (aroundL o lx ly hx hy ⟨p'.1, p'.2, st', s', i'⟩ ⟨p.1, p.2, st, s, i⟩ ++ [bpt (2 * lx) (2 * ly) (2 * (hx - lx)) (2 * (hy - ly)) q']) = arcS (2 * lx) (2 * ly) (2 * (hx - lx)) (2 * (hy - ly)) o q n ∧
      OctiL (bpt (2 * lx) (2 * ly) (2 * (hx - lx)) (2 * (hy - ly)) q) (aroundL o lx ly hx hy ⟨p'.1, p'.2, st', s', i'⟩ ⟨p.1, p.2, st, s, i⟩ ++ [bpt (2 * lx) (2 * ly) (2 * (hx - lx)) (2 * (hy - ly)) q']) := by
  have hbf := before_iff h1 h2 ho hp hp' hB hA st st' i i'
  obtain ⟨k1, k2, k3, k4⟩ := side_eK h1 h2 hB
  obtain ⟨j1, j2, j3, j4⟩ := side_eK h1 h2 hA
  have hoo : ∀ x : Int, q + o * (o * (x - q)) = x := fun x => by rcases ho with rfl | rfl <;> omega
  unfold aroundL
  simp only
  by_cases hs : s' = s ∧ beforeE o ⟨p.1, p.2, st, s, i⟩ ⟨p'.1, p'.2, st', s', i'⟩
  · rw [if_pos hs]
    obtain ⟨rfl, hb⟩ := hs
    have hb := hbf.1 hb
    have hn : NearK o (hx - lx) (hy - ly) q q' := ⟨⟨2 * s' - 1 - 1, by omega, by rw [show (2 * (s' : Int) - 1 - 1) + 2 = 2 * s' - 1 + 1 by omega]; omega, by rw [show (2 * (s' : Int) - 1 - 1) + 2 = 2 * s' - 1 + 1 by omega]; omega⟩, by omega⟩
    refine ⟨(o * (q' - q)).toNat, by omega, ?_, ?_, ?_, octi_side h1 h2 hn, trivial⟩
    · rw [Int.toNat_of_nonneg (by omega)]; rcases ho with rfl | rfl <;> omega
    · rw [Int.toNat_of_nonneg (by omega), hoo]
    · rw [List.nil_append, stepsR, stepsR, List.append_nil, seg_side h1 h2 ho hn]
  · rw [if_neg hs]
    have key : ∃ (tA kA : Int) (m : Nat), cK kA = midC s' ∧ kA % 2 = 1 ∧ m + 1 < 8 ∧ kA = 2 * s - 1 + o * ((m : Int) + 2) ∧ (eK (hx - lx) (hy - ly) (kA - 1) < tA ∧ tA < eK (hx - lx) (hy - ly) (kA + 1)) ∧
        bpt (2 * lx) (2 * ly) (2 * (hx - lx)) (2 * (hy - ly)) tA = bpt (2 * lx) (2 * ly) (2 * (hx - lx)) (2 * (hy - ly)) q' ∧ 0 < o * (tA - q) ∧ o * (tA - q) ≤ 4 * (hx - lx) + 4 * (hy - ly) := by
      have hP : 2 * (2 * (hx - lx) + 2 * (hy - ly)) = 4 * (hx - lx) + 4 * (hy - ly) := by omega
      have hlt := fun (u v : Nat) => @eK_lt (hx - lx) (hy - ly) (by omega) (by omega) u v
      rcases ho with rfl | rfl
      · by_cases c : s < s'
        · have := hlt s s' (by omega) c (by omega)
          exact ⟨q', 2 * s' - 1, 2 * (s' - s) - 2, j2.symm, by omega, by omega, by omega, j1, rfl, by omega, by omega⟩
        · have hr1 := eK_round (hx - lx) (hy - ly) (2 * s' - 1 - 1)
          have hr2 := eK_round (hx - lx) (hy - ly) (2 * s' - 1 + 1)
          have hle : q' ≤ q := by
            by_cases e : s' = s
            · have hb : ¬ (0 < 1 * (q' - q)) := fun hh => hs ⟨e, hbf.2 hh⟩
              omega
            · have := hlt s' s (by omega) (by omega) (by omega)
              omega
          refine ⟨q' + 2 * (2 * (hx - lx) + 2 * (hy - ly)), 2 * s' - 1 + 8, 2 * s' + 6 - 2 * s, ?_, by omega, by omega, by omega, ?_, bpt_round q', by omega, by omega⟩
          · rw [j2]; unfold cK; rw [show (2 * (s' : Int) - 1 + 8) % 8 = (2 * (s' : Int) - 1) % 8 by omega]
          · rw [show 2 * (s' : Int) - 1 + 8 - 1 = 2 * s' - 1 - 1 + 8 by omega, show 2 * (s' : Int) - 1 + 8 + 1 = 2 * s' - 1 + 1 + 8 by omega]; omega
      · by_cases c : s' < s
        · have := hlt s' s (by omega) c (by omega)
          exact ⟨q', 2 * s' - 1, 2 * (s - s') - 2, j2.symm, by omega, by omega, by omega, j1, rfl, by omega, by omega⟩
        · have hr1 := eK_round (hx - lx) (hy - ly) (2 * s' - 1 - 1 - 8)
          have hr2 := eK_round (hx - lx) (hy - ly) (2 * s' - 1 + 1 - 8)
          have hle : q ≤ q' := by
            by_cases e : s' = s
            · have hb : ¬ (0 < (-1) * (q' - q)) := fun hh => hs ⟨e, hbf.2 hh⟩
              omega
            · have := hlt s s' (by omega) (by omega) (by omega)
              omega
          rw [show 2 * (s' : Int) - 1 - 1 - 8 + 8 = 2 * s' - 1 - 1 by omega] at hr1
          rw [show 2 * (s' : Int) - 1 + 1 - 8 + 8 = 2 * s' - 1 + 1 by omega] at hr2
          refine ⟨q' - 2 * (2 * (hx - lx) + 2 * (hy - ly)), 2 * s' - 1 - 8, 2 * s + 6 - 2 * s', ?_, by omega, by omega, by omega, ?_, ?_, by omega, by omega⟩
          · rw [j2]; unfold cK; rw [show (2 * (s' : Int) - 1 - 8) % 8 = (2 * (s' : Int) - 1) % 8 by omega]
          · rw [show 2 * (s' : Int) - 1 - 8 - 1 = 2 * s' - 1 - 1 - 8 by omega, show 2 * (s' : Int) - 1 - 8 + 1 = 2 * s' - 1 + 1 - 8 by omega]; omega
          · rw [← bpt_round (q' - 2 * (2 * (hx - lx) + 2 * (hy - ly)))]; congr 1; omega
    obtain ⟨tA, kA, m, e1, e2, e3, e4, e5, e6, e7, e8⟩ := key
    have hw := walk_arc h1 h2 (q := q) (tA := tA) (kB := 2 * s - 1) (kA := kA) ho (by omega) e2 e3 e4 k1 e5
    refine ⟨(o * (tA - q)).toNat, by omega, by rw [Int.toNat_of_nonneg (by omega)]; exact e8, by rw [Int.toNat_of_nonneg (by omega), hoo, e6], ?_, ?_⟩
    · rw [← hw.2.1, e1, ← k2, e6]
    · rw [← e1, k2, ← e6]; exact hw.2.2
end

theorem octi_app : ∀ (a b : List (Int × Int)) (q : Int × Int), OctiL q a → OctiL (lastOr q a) b → OctiL q (a ++ b)
  | [], _, _, _, h => h
  | p :: a, b, q, h, h' => ⟨h.1, octi_app a b p h.2 (by rw [lastOr_cons] at h'; exact h')⟩

theorem octi_dbl : ∀ (a : List (Int × Int)) (q : Int × Int), OctiL q a → OctiL (dblP q) (a.map dblP)
  | [], _, _ => trivial
  | p :: a, q, h => by
    refine ⟨?_, octi_dbl a p h.2⟩
    have := h.1
    unfold Octi dblP at *
    simp only
    omega

section
variable {lx ly hx hy o : Int} {P0 : Int × Int} {l : List (Int × Int)} {rows : List (List (Int × Int))} {jn : Bool} {J : List (List (Int × Int))} {nx len : Nat → Nat}

/-- What is between a row's end and the beginning that follows is a piece of the boundary. -/
theorem arcs_steps (h1 : lx < hx) (h2 : ly < hy) (K : RingRows lx ly hx hy P0 l rows jn J) (Ar : ArcsOk (2 * lx) (2 * ly) (2 * (hx - lx)) (2 * (hy - ly)) J.length (fun i => dblP (J[i]!.head!)) (fun i => dblP (J[i]!.getLast!)) o nx len) {i : Nat} (hi : i < J.length) :
    stepsR (dblP (J[i]!.getLast!)) (aroundL o lx ly hx hy (endE lx ly hx hy J (2 * nx i)) (endE lx ly hx hy J (2 * i + 1)) ++ [dblP (J[nx i]!.head!)]) = arcS (2 * lx) (2 * ly) (2 * (hx - lx)) (2 * (hy - ly)) o (posB (2 * lx) (2 * ly) (2 * (hx - lx)) (2 * (hy - ly)) (dblP (J[i]!.getLast!))) (len i) ∧ OctiL (dblP (J[i]!.getLast!)) (aroundL o lx ly hx hy (endE lx ly hx hy J (2 * nx i)) (endE lx ly hx hy J (2 * i + 1)) ++ [dblP (J[nx i]!.head!)]) := by
  have hn := Ar.lt i hi
  obtain ⟨p, a1, a2, a3, a4⟩ := K.at_ (2 * i + 1) (by omega)
  obtain ⟨p', b1, b2, b3, b4⟩ := K.at_ (2 * nx i) (by omega)
  have o1 := K.cut.end_on (e := 2 * i + 1) (by omega)
  have o2 := K.cut.end_on (e := 2 * nx i) (by omega)
  rw [← a2] at o1
  rw [← b2] at o2
  obtain ⟨-, -, q1⟩ := posB_at (by omega) (by omega) o1
  obtain ⟨-, -, q2⟩ := posB_at (by omega) (by omega) o2
  obtain ⟨n, n0, n1, n2, n3, n4⟩ := around_arc h1 h2 Ar.ho a3 b3 a4 b4 (decide ((2 * i + 1) % 2 = 0)) (decide (2 * nx i % 2 = 0)) ((2 * i + 1) / 2) (2 * nx i / 2)
  have eB : dblP p = dblP (J[i]!.getLast!) := by rw [a2]; unfold endA; rw [if_neg (by omega), show (2 * i + 1) / 2 = i by omega]
  have eA : dblP p' = dblP (J[nx i]!.head!) := by rw [b2]; unfold endA; rw [if_pos (by omega), show 2 * nx i / 2 = nx i by omega]
  rw [← a1, ← b1, q1, q2, eB, eA] at n3 n4
  rw [q2, eA, eB] at n2
  have hf := Ar.fin i hi
  have hpos := Ar.pos i hi
  have hle : len i ≤ n := by
    by_cases c : len i ≤ n
    · exact c
    · have := Ar.no i hi n n0 (by omega) (2 * nx i) (by omega)
      unfold endA at this
      rw [if_pos (by omega), show 2 * nx i / 2 = nx i by omega] at this
      exact absurd n2.symm this
  have hge : n ≤ len i := by
    by_cases c : n ≤ len i
    · exact c
    · have e := bpt_inj (by omega) (by omega) (n2.trans hf.symm)
      have hP : 2 * (2 * (hx - lx) + 2 * (hy - ly)) = 4 * (hx - lx) + 4 * (hy - ly) := by omega
      rw [hP] at e
      rcases Ar.ho with rfl | rfl
      · have e2 := Int.emod_eq_emod_iff_emod_sub_eq_zero.1 e
        rw [Int.emod_eq_of_lt (by omega) (by omega)] at e2
        omega
      · have e2 := Int.emod_eq_emod_iff_emod_sub_eq_zero.1 e.symm
        rw [Int.emod_eq_of_lt (by omega) (by omega)] at e2
        omega
  exact ⟨by rw [n3, show n = len i by omega], n4⟩

/-- The steps of rows, each with what is behind it. -/
theorem round_steps (h1 : lx < hx) (h2 : ly < hy) (K : RingRows lx ly hx hy P0 l rows jn J) (Ar : ArcsOk (2 * lx) (2 * ly) (2 * (hx - lx)) (2 * (hy - ly)) J.length (fun i => dblP (J[i]!.head!)) (fun i => dblP (J[i]!.getLast!)) o nx len) : ∀ (L : List Nat) (i j : Nat), ChainN nx i L j → (∀ a ∈ L, a < J.length) →
    ∃ R, L.flatMap (rowBr o lx ly hx hy J nx) ++ [dblP (J[j]!.head!)] = dblP (J[i]!.head!) :: R ∧ lastOr (dblP (J[i]!.head!)) R = dblP (J[j]!.head!) ∧
      stepsR (dblP (J[i]!.head!)) R = L.flatMap (rowArc (2 * lx) (2 * ly) (2 * (hx - lx)) (2 * (hy - ly)) o (fun i => dblS (stepsL J[i]!)) (fun i => dblP (J[i]!.getLast!)) len) ∧ OctiL (dblP (J[i]!.head!)) R
  | [], i, j, h, _ => by
    have h : i = j := h
    subst h
    exact ⟨[], rfl, rfl, rfl, trivial⟩
  | a :: L, i, j, h, hl => by
    obtain ⟨rfl, h⟩ := h
    obtain ⟨R, r1, r2, r3, r4⟩ := round_steps h1 h2 K Ar L (nx a) j h fun x hx => hl x (List.mem_cons_of_mem _ hx)
    have ha := hl a (by simp)
    have hm : J[a]! ∈ J := by rw [getElem!_pos J a ha]; exact List.getElem_mem ha
    have hk := K.row _ hm
    obtain ⟨harc, hoct⟩ := arcs_steps h1 h2 K Ar ha
    have hok := hk.oct
    cases hJ : J[a]! with
    | nil => have := hk.len; rw [hJ] at this; simp at this
    | cons c t =>
      have e1 : dbl (c :: t) = dblP c :: t.map dblP := rfl
      have e2 : (c :: t).head! = c := rfl
      have e3 : (c :: t).getLast! = lastOr c t := by
        unfold lastOr
        rw [List.getLast!_cons_eq_getLastD, List.getLastD_eq_getLast?]
      have hrow : rowBr o lx ly hx hy J nx a = dblP c :: (t.map dblP ++ aroundL o lx ly hx hy (endE lx ly hx hy J (2 * nx a)) (endE lx ly hx hy J (2 * a + 1))) := by
        unfold rowBr
        rw [hJ, e1, List.cons_append]
      rw [hJ, e3] at harc hoct
      rw [hJ] at hok
      refine ⟨t.map dblP ++ (aroundL o lx ly hx hy (endE lx ly hx hy J (2 * nx a)) (endE lx ly hx hy J (2 * a + 1)) ++ (dblP (J[nx a]!.head!) :: R)), ?_, ?_, ?_, ?_⟩
      · rw [List.flatMap_cons, hrow, List.append_assoc, r1, e2]
        simp
      · rw [e2, lastOr_append, lastOr_append, lastOr_cons, r2]
      · have elast : lastOr (dblP c) (t.map dblP) = dblP (lastOr c t) := by
          unfold lastOr
          rw [List.getLast?_map]
          cases t.getLast? <;> rfl
        have ea : aroundL o lx ly hx hy (endE lx ly hx hy J (2 * nx a)) (endE lx ly hx hy J (2 * a + 1)) ++ (dblP (J[nx a]!.head!) :: R) = (aroundL o lx ly hx hy (endE lx ly hx hy J (2 * nx a)) (endE lx ly hx hy J (2 * a + 1)) ++ [dblP (J[nx a]!.head!)]) ++ R := by simp
        rw [e2, stepsR_app, elast, ea, stepsR_app, harc, lastOr_append, lastOr_cons]
        show _ = _
        rw [List.flatMap_cons]
        unfold rowArc
        simp only
        rw [hJ, e3, List.append_assoc, stepsR_dbl]
        show _ ++ (_ ++ stepsR (dblP (J[nx a]!.head!)) R) = _
        rw [r3]
        rfl
      · have elast : lastOr (dblP c) (t.map dblP) = dblP (lastOr c t) := by
          unfold lastOr
          rw [List.getLast?_map]
          cases t.getLast? <;> rfl
        have ea : aroundL o lx ly hx hy (endE lx ly hx hy J (2 * nx a)) (endE lx ly hx hy J (2 * a + 1)) ++ (dblP (J[nx a]!.head!) :: R) = (aroundL o lx ly hx hy (endE lx ly hx hy J (2 * nx a)) (endE lx ly hx hy J (2 * a + 1)) ++ [dblP (J[nx a]!.head!)]) ++ R := by simp
        rw [e2]
        refine octi_app _ _ _ (octi_dbl _ _ hok.2) ?_
        rw [elast, ea]
        refine octi_app _ _ _ hoct ?_
        rw [lastOr_append, lastOr_cons]
        exact r4
end
end Go.Proofs.Ytafanlbfbfbeoaa

/- What rings of halves go around, and their areas, told by their steps. -/
namespace Go.Proofs.Ytafanlbfbfbeoaa

def highJ (Y : Int) (p : Int × Int) : Int := if 2 * Y < p.2 then 1 else 0

section
variable {X Y : Int}

theorem crossJ_flat {a b : Int × Int} (h : highJ Y a = highJ Y b) : crossIJ X Y a b = 0 := by
  unfold highJ at h
  unfold crossIJ
  rw [if_neg, if_neg]
  · rfl
  · rintro ⟨h1, h2, _⟩; split at h <;> split at h <;> omega
  · rintro ⟨h1, h2, _⟩; split at h <;> split at h <;> omega

theorem crossJ_slope {s : Int} {a b : Int × Int} (hs : b.1 - a.1 = s * (b.2 - a.2)) :
    crossIJ X Y a b = if 4 * X + 2 < 2 * a.1 + s * (4 * Y + 1 - 2 * a.2) then highJ Y b - highJ Y a else 0 := by
  have hl : leftIJ X Y a b = 2 * (b.2 - a.2) * (2 * a.1 + s * (4 * Y + 1 - 2 * a.2) - (4 * X + 2)) := by
    unfold leftIJ
    grind
  by_cases hf : highJ Y a = highJ Y b
  · rw [crossJ_flat hf, hf]
    split <;> omega
  · generalize 2 * a.1 + s * (4 * Y + 1 - 2 * a.2) = c at *
    unfold highJ at hf ⊢
    unfold crossIJ
    rw [hl]
    by_cases ha : 2 * Y < a.2 <;> by_cases hb : 2 * Y < b.2
    · simp [ha, hb] at hf
    · rw [if_neg (by omega)]
      by_cases hc : 4 * X + 2 < c
      · rw [if_pos ⟨by omega, by omega, Int.mul_neg_of_neg_of_pos (by omega) (by omega)⟩, if_pos hc, if_neg hb, if_pos ha]; rfl
      · rw [if_neg, if_neg hc]
        · rfl
        · rintro ⟨_, _, h⟩
          have := Int.mul_nonneg_of_nonpos_of_nonpos (a := 2 * (b.2 - a.2)) (b := c - (4 * X + 2)) (by omega) (by omega)
          omega
    · rw [if_neg (c := 4 * Y + 1 < 2 * a.2 ∧ _) (by omega)]
      by_cases hc : 4 * X + 2 < c
      · rw [if_pos ⟨by omega, by omega, Int.mul_pos (by omega) (by omega)⟩, if_pos hc, if_pos hb, if_neg ha]; rfl
      · rw [if_neg, if_neg hc]
        · rfl
        · rintro ⟨_, _, h⟩
          have := Int.mul_nonpos_of_nonneg_of_nonpos (a := 2 * (b.2 - a.2)) (b := c - (4 * X + 2)) (by omega) (by omega)
          omega
    · simp [ha, hb] at hf

theorem crossJ_split {s : Int} {q c p : Int × Int} (h1 : c.1 - q.1 = s * (c.2 - q.2)) (h2 : p.1 - q.1 = s * (p.2 - q.2)) : crossIJ X Y q p = crossIJ X Y q c + crossIJ X Y c p := by
  have h3 : p.1 - c.1 = s * (p.2 - c.2) := by grind
  have e : 2 * c.1 + s * (4 * Y + 1 - 2 * c.2) = 2 * q.1 + s * (4 * Y + 1 - 2 * q.2) := by grind
  rw [crossJ_slope h1, crossJ_slope h2, crossJ_slope h3, e]
  split <;> omega

theorem crossJ_flat3 {q c p : Int × Int} (h1 : c.2 = q.2) (h2 : p.2 = q.2) : crossIJ X Y q p = crossIJ X Y q c + crossIJ X Y c p := by
  rw [crossJ_flat (a := q) (b := p), crossJ_flat (a := q) (b := c), crossJ_flat (a := c) (b := p)] <;> simp [highJ, h1, h2]

theorem crossJ_unit (v : Int × Int) : ∀ k, k < 8 → crossIJ X Y v (toK v k) = crQ (8 * X + 5) (8 * Y + 2) (v, toK v k) := by
  obtain ⟨a, b⟩ := v
  have up : ∀ s : Int, s = 0 ∨ s = 1 ∨ s = -1 → crossIJ X Y (a, b) (a + s, b + 1) = crQ (8 * X + 5) (8 * Y + 2) ((a, b), (a + s, b + 1)) := fun s hs => by
    rw [crossJ_slope (s := s) (by simp only; rcases hs with rfl | rfl | rfl <;> omega)]
    unfold crQ highJ
    simp only
    rw [show a + s - a = s by omega]
    rcases hs with rfl | rfl | rfl <;> (repeat' split) <;> omega
  have dn : ∀ s : Int, s = 0 ∨ s = 1 ∨ s = -1 → crossIJ X Y (a, b) (a + s, b + -1) = crQ (8 * X + 5) (8 * Y + 2) ((a, b), (a + s, b + -1)) := fun s hs => by
    rw [crossJ_slope (s := -s) (by simp only; rcases hs with rfl | rfl | rfl <;> omega)]
    unfold crQ highJ
    simp only
    rw [show a + s - a = s by omega, show a - (a + s) = -s by omega]
    rcases hs with rfl | rfl | rfl <;> (repeat' split) <;> omega
  have fl : ∀ s : Int, crossIJ X Y (a, b) (a + s, b + 0) = crQ (8 * X + 5) (8 * Y + 2) ((a, b), (a + s, b + 0)) := fun s => by
    rw [crossJ_flat (by simp [highJ]), crQ_none (by simp)]
  exact eight (fl 1) (up 1 (by simp)) (up 0 (by simp)) (up (-1) (by simp)) (fl (-1)) (dn (-1) (by simp)) (dn 0 (by simp)) (dn 1 (by simp))

theorem sumQ_one (f : (Int × Int) × (Int × Int) → Int) (s : (Int × Int) × (Int × Int)) : sumQ f [s] = f s := by simp [sumQ]

theorem seg_crossJ {a b : Int × Int} (h : Octi a b) : crossIJ X Y a b = sumQ (crQ (8 * X + 5) (8 * Y + 2)) (segS a b) := by
  have hn := len_nonneg a b
  have hd := dir_ok a b
  have hb := pt_len h
  unfold segS
  generalize dirK a b = d at *
  have key : ∀ n : Nat, crossIJ X Y a (ptK a d (n : Int)) = sumQ (crQ (8 * X + 5) (8 * Y + 2)) ((List.range n).map fun k : Nat => (ptK a d (k : Int), ptK a d ((k : Int) + 1))) := by
    intro n
    induction n with
    | zero =>
      rw [show ((0 : Nat) : Int) = 0 from rfl, pt_zero]
      exact crossJ_flat rfl
    | succ n ih =>
      rw [List.range_succ, List.map_append, sumQ_append, ← ih, List.map_singleton, sumQ_one, Int.natCast_add, Int.natCast_one]
      have hs : crossIJ X Y a (ptK a d ((n : Int) + 1)) = crossIJ X Y a (ptK a d (n : Int)) + crossIJ X Y (ptK a d (n : Int)) (ptK a d ((n : Int) + 1)) := by
        by_cases h0 : d.2 = 0
        · exact crossJ_flat3 (by unfold ptK; simp [h0]) (by unfold ptK; simp [h0])
        · have h2 : d.2 * d.2 = 1 := by rcases hd.2 with e | e | e <;> rw [e] <;> first | rfl | exact absurd e h0
          refine crossJ_split (s := d.1 * d.2) ?_ ?_ <;> unfold ptK <;> simp only <;> grind
      rw [hs]
      congr 1
      by_cases h0 : d.1 ≠ 0 ∨ d.2 ≠ 0
      · obtain ⟨k, hk, e1, e2⟩ := dir_k hd h0
        have e : ptK a d ((n : Int) + 1) = toK (ptK a d (n : Int)) k := by
          unfold toK ptK
          rw [e1, e2]
          refine Prod.ext ?_ ?_ <;> simp only <;> grind
        rw [e]
        exact crossJ_unit _ k hk
      · have e1 : d.1 = 0 := by omega
        have e2 : d.2 = 0 := by omega
        rw [crossJ_flat (by unfold highJ ptK; simp [e2]), crQ_none (by unfold ptK; simp [e2])]
  rw [← key, Int.toNat_of_nonneg hn, hb]

theorem chain_crossJ : ∀ (l : List (Int × Int)) (q : Int × Int), OctiL q l → chainIJ X Y q l = sumQ (crQ (8 * X + 5) (8 * Y + 2)) (stepsR q l)
  | [], _, _ => rfl
  | p :: l, q, h => by
    rw [chainIJ, stepsR, sumQ_append, seg_crossJ h.1, chain_crossJ l p h.2]

/-- How often a ring of halves goes around a point is told by its steps. -/
theorem wind_stepsJ {q : Int × Int} {l : List (Int × Int)} (ho : OctiL q l) (hc : lastOr q l = q) : windIJ X Y (q :: l) = oK (stepsR q l) (2 * X + 1, 2 * Y + 1) 6 := by
  unfold windIJ
  rw [lastOr_cons, hc, chainIJ, chain_crossJ l q ho, crossJ_flat rfl, Int.zero_add]
  unfold oK wQ
  have e1 : 8 * X + 5 = 4 * (2 * X + 1, 2 * Y + 1).1 + qX 6 := by show 8 * X + 5 = 4 * (2 * X + 1) + 1; omega
  have e2 : 8 * Y + 2 = 4 * (2 * X + 1, 2 * Y + 1).2 + qY 6 := by show 8 * Y + 2 = 4 * (2 * Y + 1) + -2; omega
  rw [← e1, ← e2]

theorem cross_dbl (a b : Int × Int) : crossIJ X Y (dblP a) (dblP b) = crossI X Y a b := by
  have hl : leftIJ X Y (dblP a) (dblP b) = leftI X Y a b := by
    unfold leftIJ leftI dblP
    simp only
    grind
  unfold crossIJ crossI
  rw [hl]
  unfold dblP
  simp only
  rw [show 2 * (2 * a.2) = 4 * a.2 by omega, show 2 * (2 * b.2) = 4 * b.2 by omega]

theorem chain_dbl : ∀ (l : List (Int × Int)) (q : Int × Int), chainIJ X Y (dblP q) (l.map dblP) = chainI X Y q l
  | [], _ => rfl
  | p :: l, q => by rw [List.map_cons, chainIJ, chainI, cross_dbl, chain_dbl l p]

theorem last_dbl (q : Int × Int) (l : List (Int × Int)) : lastOr (dblP q) (l.map dblP) = dblP (lastOr q l) := by
  unfold lastOr
  rw [List.getLast?_map]
  cases l.getLast? <;> rfl

theorem wind_dbl (ps : List (Int × Int)) : windIJ X Y (ps.map dblP) = windI X Y ps := by
  unfold windIJ windI
  have e : ((0, 0) : Int × Int) = dblP (0, 0) := rfl
  rw [← chain_dbl, ← last_dbl, ← e]
end

theorem seg_area {a b : Int × Int} (h : Octi a b) : areaP a b = sumQ areaS (segS a b) := by
  have hn := len_nonneg a b
  have hb := pt_len h
  unfold segS
  generalize dirK a b = d at *
  have key : ∀ n : Nat, areaP a (ptK a d (n : Int)) = sumQ areaS ((List.range n).map fun k : Nat => (ptK a d (k : Int), ptK a d ((k : Int) + 1))) := by
    intro n
    induction n with
    | zero =>
      rw [show ((0 : Nat) : Int) = 0 from rfl, pt_zero]
      unfold areaP
      rw [Int.sub_self]; rfl
    | succ n ih =>
      rw [List.range_succ, List.map_append, sumQ_append, ← ih, List.map_singleton, sumQ_one, Int.natCast_add, Int.natCast_one]
      unfold areaP areaS ptK
      simp only
      grind
  rw [← key, Int.toNat_of_nonneg hn, hb]

theorem chain_area : ∀ (l : List (Int × Int)) (q : Int × Int), OctiL q l → areaR q l = sumQ areaS (stepsR q l)
  | [], _, _ => rfl
  | p :: l, q, h => by rw [areaR, stepsR, sumQ_append, seg_area h.1, chain_area l p h.2]

/-- Twice the area, told by the steps. -/
theorem area_steps {q : Int × Int} {l : List (Int × Int)} (ho : OctiL q l) (hc : lastOr q l = q) : areaL (q :: l) = sumQ areaS (stepsR q l) := by
  unfold areaL rotL
  show areaR q (l ++ [q]) = _
  rw [area_append, hc, chain_area l q ho]
  have e : areaP q q = 0 := by unfold areaP; omega
  rw [areaR, areaR, e]
  omega

theorem areaR_dbl : ∀ (l : List (Int × Int)) (q : Int × Int), areaR (dblP q) (l.map dblP) = 4 * areaR q l
  | [], _ => rfl
  | p :: l, q => by
    rw [List.map_cons, areaR, areaR, areaR_dbl l p]
    unfold areaP dblP
    simp only
    grind

theorem areaL_dbl (q : Int × Int) (l : List (Int × Int)) : areaL ((q :: l).map dblP) = 4 * areaL (q :: l) := by
  unfold areaL rotL
  show areaR (dblP q) (l.map dblP ++ [dblP q]) = 4 * areaR q (l ++ [q])
  rw [← areaR_dbl, List.map_append]; rfl
end Go.Proofs.Ytafanlbfbfbeoaa

/- What the rings are that a ring is, clipped smartly: closed, turning as it does; they go around each point as often. -/
namespace Go.Proofs.Ytafanlbfbfbeoaa

section
variable {o lx ly hx hy : Int} {P0 : Int × Int} {l : List (Int × Int)} {rows : List (List (Int × Int))} {jn : Bool} {J : List (List (Int × Int))} {nx len : Nat → Nat}

/-- A round, as a ring of points. -/
theorem round_ring (h1 : lx < hx) (h2 : ly < hy) (K : RingRows lx ly hx hy P0 l rows jn J) (Ar : ArcsOk (2 * lx) (2 * ly) (2 * (hx - lx)) (2 * (hy - ly)) J.length (fun i => dblP (J[i]!.head!)) (fun i => dblP (J[i]!.getLast!)) o nx len)
    {L : List Nat} {i : Nat} (hc : ChainN nx i L i) (hne : L ≠ []) (hl : ∀ a ∈ L, a < J.length) :
    ∃ c R, ringP o lx ly hx hy J nx L = c :: R ∧ lastOr c R = c ∧ OctiL c R ∧ stepsR c R = L.flatMap (rowArc (2 * lx) (2 * ly) (2 * (hx - lx)) (2 * (hy - ly)) o (fun i => dblS (stepsL J[i]!)) (fun i => dblP (J[i]!.getLast!)) len) := by
  obtain ⟨R, r1, r2, r3, r4⟩ := round_steps h1 h2 K Ar L i i hc hl
  have hh : L.head! = i := by
    cases L with
    | nil => exact absurd rfl hne
    | cons a L => exact hc.1
  refine ⟨_, R, ?_, r2, r4, r3⟩
  unfold ringP
  rw [hh]
  exact r1

theorem head_last {c : Int × Int} {R : List (Int × Int)} (h : lastOr c R = c) (h0 : 0 < (c :: R).length) : (c :: R)[(c :: R).length - 1] = (c :: R)[0] := by
  have e : (c :: R).getLast? = some (lastOr c R) := by
    unfold lastOr
    rw [List.getLast?_cons]
  rw [h, List.getLast?_eq_getElem?] at e
  rw [List.getElem?_eq_getElem (by simp)] at e
  injection e with e

theorem short_area {c : Int × Int} {R : List (Int × Int)} (h : lastOr c R = c) (hn : areaL (c :: R) ≠ 0) : 4 ≤ (c :: R).length := by
  match R, h, hn with
  | [], _, hn => exact absurd (by unfold areaL rotL areaR areaR areaP; simp) hn
  | [x], h, hn =>
    have e : x = c := h
    subst e
    exact absurd (by unfold areaL rotL; simp [areaR, areaP]) hn
  | [x, y], h, hn =>
    have e : y = c := h
    subst e
    exact absurd (by unfold areaL rotL; simp [areaR, areaP]; omega) hn
  | x :: y :: z :: R, _, _ => simp

/-- Each ring is closed and turns as it is told to. -/
theorem smart_rings (L : RingLaw lx ly hx hy P0 l) (hO : o = if 0 < areaL (P0 :: l) then 1 else -1) {res : List (List (Int × Int))} (h : SmartR o lx ly hx hy P0 l res) :
    ∀ r ∈ res, ∃ h4 : 4 ≤ r.length, r[r.length - 1] = r[0] ∧ (0 < areaL r ↔ 0 < areaL (P0 :: l)) := by
  have ho : o = 1 ∨ o = -1 := by rw [hO]; split <;> simp
  intro r hr
  rcases smart_rows ho L h with ⟨_, rfl⟩ | ⟨_, _, rfl⟩ | ⟨_, J, d, oe, nx, len, Ls, S⟩
  · rw [List.mem_singleton.1 hr]
    refine ⟨by rw [List.length_map]; exact L.len4, ?_, by rw [areaL_dbl]; omega⟩
    have e := head_last (c := dblP P0) (R := l.map dblP) (by rw [last_dbl, L.cl]) (by simp)
    exact e
  · simp at hr
  · obtain ⟨jn, K⟩ := S.rr
    obtain ⟨Kn, R⟩ := S.run
    rw [S.res] at hr
    obtain ⟨M, hM, rfl⟩ := List.mem_map.1 hr
    obtain ⟨m1, m2, m3, m4⟩ := S.lists.2 M hM
    obtain ⟨i, hc⟩ := (R.round M hM).2
    obtain ⟨c, T, e1, e2, e3, e4⟩ := round_ring L.h1 L.h2 K R.arcs hc m1 m4
    have ha := area_steps e3 e2
    obtain ⟨a1, a2⟩ := round_area K.cut R.arcs hc m3 m4 m1
    rw [← e4, ← ha] at a1 a2
    rw [e1]
    have hne : areaL (c :: T) ≠ 0 := by
      rcases ho with h | h
      · have := a1 h; omega
      · have := a2 h; omega
    refine ⟨short_area e2 hne, head_last e2 (by simp), ?_⟩
    by_cases hp : 0 < areaL (P0 :: l)
    · rw [if_pos hp] at hO
      have := a1 hO
      omega
    · rw [if_neg hp] at hO
      have := a2 hO
      omega

/-- The steps that are in the box. -/
theorem keep_in (L : RingLaw lx ly hx hy P0 l) : ∀ s ∈ stepsR P0 l, keepS false lx ly hx hy s = keepS true lx ly hx hy s ∧ keepS true lx ly hx hy s = decide ((lx ≤ s.1.1 ∧ s.1.1 ≤ hx ∧ ly ≤ s.1.2 ∧ s.1.2 ≤ hy) ∧ (lx ≤ s.2.1 ∧ s.2.1 ≤ hx ∧ ly ≤ s.2.2 ∧ s.2.2 ≤ hy)) := fun s hs => by
  have hf := steps_off l P0 L.oct L.off s hs
  have ea : alongB lx ly hx hy s.1 s.2 = false := by
    unfold alongB
    rw [Bool.or_eq_false_iff]
    constructor
    · rw [Bool.and_eq_false_iff]
      by_cases e : s.1.1 = s.2.1
      · right; have := hf.1 e; simp [this.1, this.2]
      · left; simp [e]
    · rw [Bool.and_eq_false_iff]
      by_cases e : s.1.2 = s.2.2
      · right; have := hf.2 e; simp [this.1, this.2]
      · left; simp [e]
  constructor
  · unfold keepS keepB
    rw [ea]
    simp
  · unfold keepS keepB
    rw [ea, Bool.eq_iff_iff]
    simp only [Bool.and_false, Bool.not_false, Bool.and_true, Bool.and_eq_true, decide_eq_true_eq, hasB_iff]

theorem none_within (L : RingLaw lx ly hx hy P0 l) (h : lineL true lx ly hx hy (P0 :: l) = []) : ((stepsL (P0 :: l)).filter fun s => keepB false lx ly hx hy s.1 s.2) = [] ∧ ((stepsR P0 l).filter (keepS true lx ly hx hy)) = [] := by
  obtain ⟨hst, -⟩ := line_spec (o := true) L.h1 L.h2 (ps := P0 :: l) ⟨octi_self _, L.oct⟩
  rw [h, List.flatMap_nil] at hst
  refine ⟨?_, hst.symm⟩
  have e : ((stepsL (P0 :: l)).filter fun s => keepB false lx ly hx hy s.1 s.2) = (stepsL (P0 :: l)).filter (keepS true lx ly hx hy) := by
    refine List.filter_congr fun s hs => ?_
    exact (keep_in L s hs).1
  rw [e, ← hst]

theorem none_cut (L : RingLaw lx ly hx hy P0 l) (h : lineL true lx ly hx hy (P0 :: l) = []) : CutRows (2 * lx) (2 * ly) (2 * (hx - lx)) (2 * (hy - ly)) (dblS (stepsR P0 l)) 0 (fun _ => []) (fun _ => (0, 0)) (fun _ => (0, 0)) where
  cut := ring_cut L.h1 L.h2 L.oct L.simp L.off L.crn
  perm := by
    rw [filter_dbl (f := keepS true lx ly hx hy), (none_within L h).2]
    · exact List.Perm.refl _
    · intro s hs
      have hu := unit_le (L.simp.unit s hs)
      rw [(keep_in L s hs).2]
      obtain ⟨⟨a1, a2⟩, b1, b2⟩ := s
      simp only at hu ⊢
      constructor
      · rw [decide_eq_decide]
        unfold InB dblP midS
        simp only
        constructor <;> intro hh' <;> omega
      · rw [decide_eq_decide]
        unfold InB dblP midS
        simp only
        constructor <;> intro hh' <;> omega
  chain := fun i hi => absurd hi (Nat.not_lt_zero _)
  ne := fun i hi => absurd hi (Nat.not_lt_zero _)
  onA := fun i hi => absurd hi (Nat.not_lt_zero _)
  onB := fun i hi => absurd hi (Nat.not_lt_zero _)

theorem oK_nil (v : Int × Int) (k : Nat) : oK [] v k = 0 := rfl

theorem rounds_sum {X Y : Int} {f : Nat → List ((Int × Int) × (Int × Int))} {g : List Nat → List (Int × Int)} : ∀ (Ls : List (List Nat)), (∀ M ∈ Ls, windIJ X Y (g M) = oK (M.flatMap f) (2 * X + 1, 2 * Y + 1) 6) → ((Ls.map g).map (windIJ X Y)).sum = oK (Ls.flatten.flatMap f) (2 * X + 1, 2 * Y + 1) 6
  | [], _ => rfl
  | M :: Ls, h => by
    rw [List.map_cons, List.map_cons, List.sum_cons, h M (by simp), rounds_sum Ls fun M' hM => h M' (by simp [hM]), List.flatten_cons, List.flatMap_append, oK_append]

/-- The rings go around each point in the box as often as the ring. -/
theorem smart_counts (L : RingLaw lx ly hx hy P0 l) (hO : o = if 0 < areaL (P0 :: l) then 1 else -1) {res : List (List (Int × Int))} (h : SmartR o lx ly hx hy P0 l res) (hout : lineL true lx ly hx hy (P0 :: l) = [] → windI lx ly (P0 :: l) = 0)
    {X Y : Int} (hX : lx ≤ X ∧ X < hx) (hY : ly ≤ Y ∧ Y < hy) : (res.map (windIJ X Y)).sum = windIJ X Y ((P0 :: l).map dblP) := by
  have ho : o = 1 ∨ o = -1 := by rw [hO]; split <;> simp
  have hl1 := L.h1
  have hl2 := L.h2
  have hring : ∀ X Y, windIJ X Y ((P0 :: l).map dblP) = oK (dblS (stepsR P0 l)) (2 * X + 1, 2 * Y + 1) 6 := fun X Y => by
    rw [← stepsR_dbl]
    exact wind_stepsJ (octi_dbl _ _ L.oct) (by rw [last_dbl, L.cl])
  have hin : ∀ X Y, (lx ≤ X ∧ X < hx) → (ly ≤ Y ∧ Y < hy) → Intr (2 * lx) (2 * ly) (2 * (hx - lx)) (2 * (hy - ly)) (2 * X + 1, 2 * Y + 1) := fun X Y h1 h2 => by
    unfold Intr
    simp only
    omega
  rcases smart_rows ho L h with ⟨_, rfl⟩ | ⟨_, hn, rfl⟩ | ⟨_, J, d, oe, nx, len, Ls, S⟩
  · simp
  · obtain ⟨c, hc⟩ := none_counts (none_cut L hn)
    have e1 := hc _ (hin X Y hX hY) 6 (by omega)
    have e2 := hc _ (hin lx ly (by omega) (by omega)) 6 (by omega)
    rw [← hring] at e1 e2
    rw [wind_dbl, hout hn] at e2
    rw [e1, ← e2]; rfl
  · obtain ⟨jn, K⟩ := S.rr
    obtain ⟨Kn, R⟩ := S.run
    rw [S.res, hring]
    have har : areaL (P0 :: l) * 4 = sumQ areaS (dblS (stepsR P0 l)) := by
      rw [← stepsR_dbl, ← area_steps (octi_dbl _ _ L.oct) (by rw [last_dbl, L.cl])]
      have := areaL_dbl P0 l
      rw [List.map_cons] at this
      omega
    have hO2 : o = if 0 < sumQ areaS (dblS (stepsR P0 l)) then 1 else -1 := by
      rw [← har, hO]
      by_cases hp : 0 < areaL (P0 :: l)
      · rw [if_pos hp, if_pos (by omega)]
      · rw [if_neg hp, if_neg (by omega)]
    rw [← rounds_counts K.cut R.arcs K.wrap.pos R.perm (fun M hM => (R.round M hM).2) hO2 (hin X Y hX hY) (k := 6) (by omega)]
    refine rounds_sum Ls fun M hM => ?_
    obtain ⟨m1, m2, m3, m4⟩ := S.lists.2 M hM
    obtain ⟨i, hc⟩ := (R.round M hM).2
    obtain ⟨c, T, e1, e2, e3, e4⟩ := round_ring L.h1 L.h2 K R.arcs hc m1 m4
    rw [e1, wind_stepsJ e3 e2, e4]

/-- .. as they lie in memory, each in a polygon of its own. -/
theorem rings_each {lf : Bool} (ho : turnI lf = if 0 < areaL (P0 :: l) then 1 else -1) (hlf : decide (0 < areaL (P0 :: l)) = lf) (L : RingLaw lx ly hx hy P0 l) {qs : List (Value × List (Value × List (Int × Int)))} (h : SmartQ (turnI lf) lx ly hx hy P0 l qs) :
    ∀ x ∈ qs, ∃ y, x.2 = [y] ∧ (∀ p ∈ y.2, hasB (2 * lx) (2 * ly) (2 * hx) (2 * hy) p.1 p.2 = true) ∧ y.2.length ≤ 100000 ∧ ∃ h4 : 4 ≤ y.2.length, y.2[y.2.length - 1] = y.2[0] ∧ decide (0 < areaL y.2) = lf := by
  intro x hx
  obtain ⟨res, h1, h2⟩ := h
  have hx2 : x.2.map Prod.snd ∈ res.map fun r => [r] := by rw [← h2]; exact List.mem_map.2 ⟨x, hx, rfl⟩
  obtain ⟨r, hr, e⟩ := List.mem_map.1 hx2
  obtain ⟨b1, b2⟩ := (res_ok (turn_or lf) L h1).2 r hr
  obtain ⟨h4, c1, c2⟩ := smart_rings L ho h1 r hr
  obtain ⟨y, hy⟩ : ∃ y, x.2 = [y] := by
    cases hc : x.2 with
    | nil => rw [hc] at e; simp at e
    | cons y t =>
      cases t with
      | nil => exact ⟨y, rfl⟩
      | cons z t => rw [hc] at e; simp at e
  rw [hy] at e
  have e : r = y.2 := by simpa using e
  subst e
  exact ⟨y, hy, b2, b1, h4, c1, by rw [← hlf, decide_eq_decide]; exact c2⟩
end
end Go.Proofs.Ytafanlbfbfbeoaa
