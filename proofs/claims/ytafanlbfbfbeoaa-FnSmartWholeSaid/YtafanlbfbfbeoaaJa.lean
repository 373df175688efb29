/- Twice the area within a ring of steps is told by how often it goes around the points: a simple ring that keeps what it goes around to its left has a positive one, another one a negative one. -/
import Derived.Test.YtafanlbfbfbeoaaJc
namespace Go.Proofs.Ytafanlbfbfbeoaa

/-- A step's share in twice the area. -/
def areaS (s : (Int × Int) × (Int × Int)) : Int := s.1.1 * s.2.2 - s.2.1 * s.1.2

def sumN : Nat → (Nat → Int) → Int
  | 0, _ => 0
  | n + 1, f => sumN n f + f n

theorem sumN_congr {f g : Nat → Int} : ∀ {n : Nat}, (∀ i, i < n → f i = g i) → sumN n f = sumN n g
  | 0, _ => rfl
  | n + 1, h => by rw [sumN, sumN, h n (by omega), sumN_congr fun i hi => h i (by omega)]

theorem sumN_add (f g : Nat → Int) : ∀ n, sumN n (fun i => f i + g i) = sumN n f + sumN n g
  | 0 => rfl
  | n + 1 => by simp only [sumN]; rw [sumN_add f g n]; omega

theorem sumN_mul (c : Int) (f : Nat → Int) : ∀ n, sumN n (fun i => c * f i) = c * sumN n f
  | 0 => by simp [sumN]
  | n + 1 => by simp only [sumN]; rw [sumN_mul c f n, Int.mul_add]

theorem sumN_zero {f : Nat → Int} : ∀ {n : Nat}, (∀ i, i < n → f i = 0) → sumN n f = 0
  | 0, _ => rfl
  | n + 1, h => by rw [sumN, h n (by omega), sumN_zero fun i hi => h i (by omega)]; rfl

theorem sumN_nonneg {f : Nat → Int} : ∀ {n : Nat}, (∀ i, i < n → 0 ≤ f i) → 0 ≤ sumN n f
  | 0, _ => Int.le_refl _
  | n + 1, h => by have h1 := h n (by omega); have h2 := sumN_nonneg fun i (hi : i < n) => h i (by omega); rw [sumN]; omega

theorem sumN_pos {f : Nat → Int} : ∀ {n : Nat} (j : Nat), (∀ i, i < n → 0 ≤ f i) → j < n → 0 < f j → 0 < sumN n f
  | 0, _, _, hj, _ => by omega
  | n + 1, j, h, hj, hp => by
    have h1 := h n (by omega)
    have h2 := sumN_nonneg fun i (hi : i < n) => h i (by omega)
    rw [sumN]
    by_cases e : j = n
    · subst e; omega
    · have := sumN_pos j (fun i (hi : i < n) => h i (by omega)) (by omega) hp; omega

/-- How many of the numbers from X on lie below c. -/
theorem sumN_lt (X c : Int) : ∀ (n : Nat), X ≤ c → sumN n (fun i => if X + i < c then 1 else 0) = min (n : Int) (c - X)
  | 0, h => by simp [sumN]; omega
  | n + 1, h => by
    rw [sumN, sumN_lt X c n h]
    split <;> omega

/-- The row of a step is met once. -/
theorem sumN_row (Y a v : Int) : ∀ (n : Nat), Y ≤ a → sumN n (fun j => if Y + j = a then v else 0) = if a < Y + n then v else 0
  | 0, h => by rw [sumN, if_neg (by omega)]
  | n + 1, h => by
    rw [sumN, sumN_row Y a v n h]
    split <;> split <;> split <;> omega

/-- The four parts of a square. -/
def triF (f : Int → Int → Int) (x y : Int) : Int := f (4 * x + 2) (4 * y + 1) + f (4 * x + 1) (4 * y + 2) + f (4 * x + 3) (4 * y + 2) + f (4 * x + 2) (4 * y + 3)

/-- What a step counts in a square. -/
theorem tri_step (X Y : Int) (s : (Int × Int) × (Int × Int)) (hs : UnitS s) :
    triF (fun x y => crQ x y s) X Y = if Y = min s.1.2 s.2.2 then (s.2.2 - s.1.2) * (2 * (if X < s.1.1 then 1 else 0) + 2 * (if X < s.2.1 then 1 else 0)) else 0 := by
  obtain ⟨k, hk, hb⟩ := hs
  obtain ⟨⟨ax, ay⟩, b⟩ := s
  simp only at hb
  subst hb
  have e : ∀ (p q : Int), crQ (4 * X + p) (4 * Y + q) ((ax, ay), toK (ax, ay) k) = crQ p q ((ax - X, ay - Y), toK (ax - X, ay - Y) k) := fun p q => by
    have h := crQ_shift X Y p q (ax - X) (ay - Y) (toK (ax - X, ay - Y) k).1 (toK (ax - X, ay - Y) k).2
    rw [← h]
    congr 2
    · simp; omega
    · simp [toK]; omega
  simp only [triF]
  rw [e, e, e, e]
  obtain ⟨a, ha⟩ : ∃ a, a = ax - X := ⟨_, rfl⟩
  obtain ⟨b, hb⟩ : ∃ b, b = ay - Y := ⟨_, rfl⟩
  rw [← ha, ← hb]
  clear e
  by_cases hr : b = 0 ∨ b = 1
  · revert hk
    revert k
    refine @(eight ?_ ?_ ?_ ?_ ?_ ?_ ?_ ?_)
    all_goals
      rcases hr with rfl | rfl
      all_goals
        simp [crQ, toK, dX, dY]
        try omega
  · have z : ∀ p q : Int, 0 < q → q < 4 → crQ p q ((a, b), toK (a, b) k) = 0 := fun p q h1 h2 => by
      have := dY_bd k hk
      apply crQ_none
      simp only [toK]
      omega
    rw [z 2 1 (by omega) (by omega), z 1 2 (by omega) (by omega), z 3 2 (by omega) (by omega), z 2 3 (by omega) (by omega), if_neg]
    · rfl
    · have := dY_bd k hk
      simp only [toK]
      omega

/-- .. and in all squares of a field. -/
def fieldF (X Y : Int) (n m : Nat) (f : Int → Int → Int) : Int := sumN m fun j => sumN n fun i => triF f (X + i) (Y + j)

theorem field_step {X Y : Int} {n m : Nat} {s : (Int × Int) × (Int × Int)} (hs : UnitS s) (h1 : X ≤ s.1.1 ∧ s.1.1 ≤ X + n ∧ Y ≤ s.1.2 ∧ s.1.2 ≤ Y + m) (h2 : X ≤ s.2.1 ∧ s.2.1 ≤ X + n ∧ Y ≤ s.2.2 ∧ s.2.2 ≤ Y + m) :
    fieldF X Y n m (fun x y => crQ x y s) = (s.2.2 - s.1.2) * (2 * (s.1.1 + s.2.1) - 4 * X) := by
  unfold fieldF
  have e : ∀ j : Nat, (sumN n fun i => triF (fun x y => crQ x y s) (X + i) (Y + j)) = if Y + j = min s.1.2 s.2.2 then (s.2.2 - s.1.2) * (2 * (s.1.1 + s.2.1) - 4 * X) else 0 := fun j => by
    by_cases hj : Y + (j : Int) = min s.1.2 s.2.2
    · rw [if_pos hj, sumN_congr (g := fun i : Nat => (s.2.2 - s.1.2) * (2 * (if X + i < s.1.1 then 1 else 0) + 2 * (if X + i < s.2.1 then 1 else 0))) fun i _ => by rw [tri_step _ _ s hs, if_pos hj],
        sumN_mul, sumN_add, sumN_mul, sumN_mul, sumN_lt X s.1.1 n h1.1, sumN_lt X s.2.1 n h2.1]
      congr 1
      omega
    · rw [if_neg hj]
      exact sumN_zero fun i _ => by rw [tri_step _ _ s hs, if_neg hj]
  rw [sumN_congr fun j _ => e j, sumN_row Y _ _ m (by omega)]
  by_cases hd : s.1.2 = s.2.2
  · rw [hd]; simp
  · rw [if_pos (by omega)]

theorem field_add (X Y : Int) (n m : Nat) (f g : Int → Int → Int) : fieldF X Y n m (fun x y => f x y + g x y) = fieldF X Y n m f + fieldF X Y n m g := by
  unfold fieldF
  rw [← sumN_add]
  refine sumN_congr fun j _ => ?_
  rw [← sumN_add]
  refine sumN_congr fun i _ => ?_
  simp only [triF]
  omega

theorem field_mul (X Y : Int) (n m : Nat) (c : Int) (f : Int → Int → Int) : fieldF X Y n m (fun x y => c * f x y) = c * fieldF X Y n m f := by
  unfold fieldF
  rw [← sumN_mul]
  refine sumN_congr fun j _ => ?_
  rw [← sumN_mul]
  refine sumN_congr fun i _ => ?_
  simp only [triF, Int.mul_add]

theorem field_zero (X Y : Int) (n m : Nat) : fieldF X Y n m (fun _ _ => 0) = 0 :=
  sumN_zero fun _ _ => sumN_zero fun _ _ => rfl

def InField (X Y : Int) (n m : Nat) (p : Int × Int) : Prop := X ≤ p.1 ∧ p.1 ≤ X + n ∧ Y ≤ p.2 ∧ p.2 ≤ Y + m

theorem field_sum {X Y : Int} {n m : Nat} : ∀ {l : List ((Int × Int) × (Int × Int))}, (∀ s ∈ l, UnitS s) → (∀ s ∈ l, InField X Y n m s.1 ∧ InField X Y n m s.2) →
    fieldF X Y n m (fun x y => wQ x y l) = sumQ (fun s => (s.2.2 - s.1.2) * (2 * (s.1.1 + s.2.1) - 4 * X)) l
  | [], _, _ => field_zero X Y n m
  | s :: l, hu, hf => by
    have h := hf s (by simp)
    rw [show (fun x y => wQ x y (s :: l)) = fun x y => crQ x y s + wQ x y l from rfl, field_add, field_step (hu s (by simp)) h.1 h.2, field_sum (fun t ht => hu t (by simp [ht])) (fun t ht => hf t (by simp [ht])), sumQ]

/-- Twice the area, twice. -/
theorem field_area {X Y : Int} {n m : Nat} {l : List ((Int × Int) × (Int × Int))} (h : RingS l) (hf : ∀ s ∈ l, InField X Y n m s.1 ∧ InField X Y n m s.2) :
    fieldF X Y n m (fun x y => wQ x y l) = 2 * sumQ areaS l := by
  obtain ⟨⟨P, hc⟩, hu⟩ := h
  rw [field_sum hu hf]
  have e1 := chain_sum (fun p => 2 * (p.1 * p.2) - 4 * X * p.2) hc
  have e2 : sumQ (fun s => (s.2.2 - s.1.2) * (2 * (s.1.1 + s.2.1) - 4 * X)) l = sumQ (fun s => (areaS s + areaS s) + ((2 * (s.2.1 * s.2.2) - 4 * X * s.2.2) - (2 * (s.1.1 * s.1.2) - 4 * X * s.1.2))) l := by
    refine sumQ_congr fun s _ => ?_
    unfold areaS
    grind
  rw [e2, sumQ_add, sumQ_add, e1]
  omega

/-- The points between the directions are the parts of the squares. -/
theorem oK_tri (l : List ((Int × Int) × (Int × Int))) (x y : Int) :
    triF (fun x y => wQ x y l) x y = oK l (x, y) 0 + oK l (x, y) 1 + oK l (x + 1, y) 2 + oK l (x, y + 1) 7 := by
  unfold triF oK
  simp only [qX, qY, List.getD_cons_zero, List.getD_cons_succ]
  rw [show 4 * (x + 1) + -1 = 4 * x + 3 by omega, show 4 * (y + 1) + -1 = 4 * y + 3 by omega]

theorem tri_mul (l : List ((Int × Int) × (Int × Int))) (e x y : Int) : triF (fun x y => e * wQ x y l) x y = e * triF (fun x y => wQ x y l) x y := by
  simp only [triF]
  rw [Int.mul_add, Int.mul_add, Int.mul_add]

/-- Each of the eight lies in a square beside the point. -/
theorem oK_square (l : List ((Int × Int) × (Int × Int))) (e : Int) (hall : ∀ v k, k < 8 → 0 ≤ e * oK l v k) (v : Int × Int) (k : Nat) (hk : k < 8) (hp : 0 < e * oK l v k) :
    ∃ x y, (x = v.1 ∨ x = v.1 - 1) ∧ (y = v.2 ∨ y = v.2 - 1) ∧ 0 < triF (fun x y => e * wQ x y l) x y := by
  obtain ⟨a, b⟩ := v
  have nn : ∀ x y, 0 ≤ e * oK l (x, y) 0 ∧ 0 ≤ e * oK l (x, y) 1 ∧ 0 ≤ e * oK l (x + 1, y) 2 ∧ 0 ≤ e * oK l (x, y + 1) 7 := fun x y => ⟨hall _ _ (by omega), hall _ _ (by omega), hall _ _ (by omega), hall _ _ (by omega)⟩
  have key : ∀ x y, (0 < e * oK l (x, y) 0 ∨ 0 < e * oK l (x, y) 1 ∨ 0 < e * oK l (x + 1, y) 2 ∨ 0 < e * oK l (x, y + 1) 7) → 0 < triF (fun x y => e * wQ x y l) x y := fun x y h => by
    have := nn x y
    rw [tri_mul, oK_tri, Int.mul_add, Int.mul_add, Int.mul_add]
    omega
  have c0 : ∀ x y k x' y' j, 4 * x + qX k = 4 * x' + qX j → 4 * y + qY k = 4 * y' + qY j → oK l (x, y) k = oK l (x', y') j := fun x y k x' y' j h1 h2 => by
    unfold oK; simp only; rw [h1, h2]
  revert hp
  revert hk
  revert k
  refine @(eight ?_ ?_ ?_ ?_ ?_ ?_ ?_ ?_)
  · exact fun hp => ⟨a, b, .inl rfl, .inl rfl, key a b (.inl hp)⟩
  · exact fun hp => ⟨a, b, .inl rfl, .inl rfl, key a b (.inr (.inl hp))⟩
  · intro hp
    refine ⟨a - 1, b, .inr rfl, .inl rfl, key _ _ (.inr (.inr (.inl ?_)))⟩
    rw [c0 (a - 1 + 1) b 2 a b 2 (by omega) rfl]; exact hp
  · intro hp
    refine ⟨a - 1, b, .inr rfl, .inl rfl, key _ _ (.inl ?_)⟩
    rw [c0 (a - 1) b 0 a b 3 (by simp [qX]; omega) rfl]; exact hp
  · intro hp
    refine ⟨a - 1, b - 1, .inr rfl, .inr rfl, key _ _ (.inr (.inr (.inr ?_)))⟩
    rw [c0 (a - 1) (b - 1 + 1) 7 a b 4 (by simp [qX]; try omega) (by simp [qY]; try omega)]; exact hp
  · intro hp
    refine ⟨a - 1, b - 1, .inr rfl, .inr rfl, key _ _ (.inr (.inr (.inl ?_)))⟩
    rw [c0 (a - 1 + 1) (b - 1) 2 a b 5 (by simp [qX]; try omega) (by simp [qY]; try omega)]; exact hp
  · intro hp
    refine ⟨a, b - 1, .inl rfl, .inr rfl, key _ _ (.inr (.inl ?_))⟩
    rw [c0 a (b - 1) 1 a b 6 (by simp [qX]) (by simp [qY]; omega)]; exact hp
  · intro hp
    refine ⟨a, b - 1, .inl rfl, .inr rfl, key _ _ (.inr (.inr (.inr ?_)))⟩
    rw [c0 a (b - 1 + 1) 7 a b 7 rfl (by omega)]; exact hp

theorem bound_all : ∀ (l : List ((Int × Int) × (Int × Int))), ∃ M : Nat, ∀ s ∈ l, (-(M : Int) ≤ s.1.1 ∧ s.1.1 ≤ M ∧ -(M : Int) ≤ s.1.2 ∧ s.1.2 ≤ M) ∧ (-(M : Int) ≤ s.2.1 ∧ s.2.1 ≤ M ∧ -(M : Int) ≤ s.2.2 ∧ s.2.2 ≤ M)
  | [] => ⟨0, by simp⟩
  | s :: l => by
    obtain ⟨M, h⟩ := bound_all l
    refine ⟨M + s.1.1.natAbs + s.1.2.natAbs + s.2.1.natAbs + s.2.2.natAbs, fun t ht => ?_⟩
    rcases List.mem_cons.1 ht with rfl | ht
    · omega
    · have := h t ht; omega

theorem area_sign {l : List ((Int × Int) × (Int × Int))} (h : RingS l) {e : Int} (hall : ∀ v k, k < 8 → 0 ≤ e * oK l v k) {s : (Int × Int) × (Int × Int)} (hs : s ∈ l) {k : Nat} (hk : k < 8) (hp : 0 < e * oK l s.1 k) : 0 < e * sumQ areaS l := by
  obtain ⟨M, hM⟩ := bound_all l
  have hf : ∀ t ∈ l, InField (-(M : Int) - 1) (-(M : Int) - 1) (2 * M + 3) (2 * M + 3) t.1 ∧ InField (-(M : Int) - 1) (-(M : Int) - 1) (2 * M + 3) (2 * M + 3) t.2 := fun t ht => by
    have := hM t ht
    unfold InField
    omega
  have ha := field_area h hf
  have hm := field_mul (-(M : Int) - 1) (-(M : Int) - 1) (2 * M + 3) (2 * M + 3) e (fun x y => wQ x y l)
  rw [ha] at hm
  obtain ⟨x, y, hx, hy, ht⟩ := oK_square l e hall s.1 k hk hp
  have hb := (hM s hs).1
  have nn : ∀ x y, 0 ≤ triF (fun x y => e * wQ x y l) x y := fun x y => by
    have h1 := hall (x, y) 0 (by omega)
    have h2 := hall (x, y) 1 (by omega)
    have h3 := hall (x + 1, y) 2 (by omega)
    have h4 := hall (x, y + 1) 7 (by omega)
    rw [tri_mul, oK_tri, Int.mul_add, Int.mul_add, Int.mul_add]
    omega
  have hpos : 0 < fieldF (-(M : Int) - 1) (-(M : Int) - 1) (2 * M + 3) (2 * M + 3) (fun x y => e * wQ x y l) := by
    refine sumN_pos (y + M + 1).toNat (fun j _ => sumN_nonneg fun i _ => nn _ _) (by omega) ?_
    refine sumN_pos (x + M + 1).toNat (fun i _ => nn _ _) (by omega) ?_
    rw [show -(M : Int) - 1 + ((x + M + 1).toNat : Int) = x by omega, show -(M : Int) - 1 + ((y + M + 1).toNat : Int) = y by omega]
    exact ht
  rw [hm] at hpos
  have e2 : e * (2 * sumQ areaS l) = 2 * (e * sumQ areaS l) := by rw [← Int.mul_assoc, ← Int.mul_assoc, Int.mul_comm e 2]
  omega

/-- The ring's area tells on which side of its steps it goes around what. -/
theorem SimpS.area {l : List ((Int × Int) × (Int × Int))} (h : SimpS l) (hne : l ≠ []) {c : Int} (hc : c = 0 ∨ c = 1) (hall : ∀ t ∈ l, SideC l c t) (hv : ∀ v k, k < 8 → oK l v k = c ∨ oK l v k = c - 1) :
    (c = 1 → 0 < sumQ areaS l) ∧ (c = 0 → sumQ areaS l < 0) := by
  cases l with
  | nil => exact absurd rfl hne
  | cons s l =>
    obtain ⟨k, hk, hk2⟩ := h.unit s (by simp)
    have hs := hall s (by simp) k hk hk2
    constructor
    · rintro rfl
      have := area_sign h.toRingS (e := 1) (fun v k hk => by have := hv v k hk; omega) (s := s) (by simp) hk (by omega)
      omega
    · rintro rfl
      have := area_sign h.toRingS (e := -1) (fun v k hk => by have := hv v k hk; omega) (s := s) (by simp) (k := (k + 7) % 8) (by omega) (by omega)
      omega
end Go.Proofs.Ytafanlbfbfbeoaa
