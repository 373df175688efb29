/- A ring of steps that comes to no point twice, and does not cross itself, goes around each point once or not at all, and always in the same direction: to the left of each of its steps as often as to the left of each other one, and to the right once less. -/
namespace Go.Proofs.Ytafanlbfbfbeoaa

/-- What a step counts at a point, told in quarters. -/
def crQ (x y : Int) (s : (Int × Int) × (Int × Int)) : Int :=
  (if 4 * s.1.2 ≤ y ∧ y < 4 * s.2.2 ∧ x < 4 * s.1.1 + (s.2.1 - s.1.1) * (y - 4 * s.1.2) then 1 else 0) - (if 4 * s.2.2 ≤ y ∧ y < 4 * s.1.2 ∧ x < 4 * s.2.1 + (s.1.1 - s.2.1) * (y - 4 * s.2.2) then 1 else 0)

/-- The eight directions, and the point between each and the next one. -/
def dX (k : Nat) : Int := [1, 1, 0, -1, -1, -1, 0, 1].getD k 0
def dY (k : Nat) : Int := [0, 1, 1, 1, 0, -1, -1, -1].getD k 0
def qX (k : Nat) : Int := [2, 1, -1, -2, -2, -1, 1, 2].getD k 0
def qY (k : Nat) : Int := [1, 2, 2, 1, -1, -2, -2, -1].getD k 0

def toK (v : Int × Int) (k : Nat) : Int × Int := (v.1 + dX k, v.2 + dY k)

/-- A step in one of the eight directions. -/
def UnitS (s : (Int × Int) × (Int × Int)) : Prop := ∃ k, k < 8 ∧ s.2 = toK s.1 k

/-- All that steps count. -/
def sumQ (f : (Int × Int) × (Int × Int) → Int) : List ((Int × Int) × (Int × Int)) → Int
  | [] => 0
  | s :: l => f s + sumQ f l

def wQ (x y : Int) (l : List ((Int × Int) × (Int × Int))) : Int := sumQ (crQ x y) l

/-- .. at the point between direction k and the next one. -/
def oK (l : List ((Int × Int) × (Int × Int))) (v : Int × Int) (k : Nat) : Int := wQ (4 * v.1 + qX k) (4 * v.2 + qY k) l

/-- A chain of steps. -/
def ChainS : Int × Int → List ((Int × Int) × (Int × Int)) → Int × Int → Prop
  | P, [], Q => P = Q
  | P, s :: l, Q => s.1 = P ∧ ChainS s.2 l Q

theorem sumQ_append (f : (Int × Int) × (Int × Int) → Int) : ∀ a b, sumQ f (a ++ b) = sumQ f a + sumQ f b
  | [], b => by simp [sumQ]
  | s :: a, b => by rw [List.cons_append, sumQ, sumQ, sumQ_append f a b]; omega

theorem sumQ_congr {f g : (Int × Int) × (Int × Int) → Int} : ∀ {l : List ((Int × Int) × (Int × Int))}, (∀ s ∈ l, f s = g s) → sumQ f l = sumQ g l
  | [], _ => rfl
  | s :: l, h => by rw [sumQ, sumQ, h s (by simp), sumQ_congr fun t ht => h t (by simp [ht])]

theorem sumQ_add (f g : (Int × Int) × (Int × Int) → Int) : ∀ l, sumQ (fun s => f s + g s) l = sumQ f l + sumQ g l
  | [] => rfl
  | s :: l => by simp only [sumQ]; rw [sumQ_add f g l]; omega

theorem sumQ_sub (f g : (Int × Int) × (Int × Int) → Int) : ∀ l, sumQ (fun s => f s - g s) l = sumQ f l - sumQ g l
  | [] => rfl
  | s :: l => by simp only [sumQ]; rw [sumQ_sub f g l]; omega

theorem sumQ_zero {f : (Int × Int) × (Int × Int) → Int} : ∀ {l : List ((Int × Int) × (Int × Int))}, (∀ s ∈ l, f s = 0) → sumQ f l = 0
  | [], _ => rfl
  | s :: l, h => by rw [sumQ, h s (by simp), sumQ_zero fun t ht => h t (by simp [ht])]; rfl

/-- What is told by the ends alone falls together. -/
theorem chain_sum (φ : Int × Int → Int) : ∀ {l : List ((Int × Int) × (Int × Int))} {P Q : Int × Int}, ChainS P l Q → sumQ (fun s => φ s.2 - φ s.1) l = φ Q - φ P
  | [], P, Q, h => by cases h; simp [sumQ]
  | s :: l, P, Q, h => by
    obtain ⟨h1, h2⟩ := h
    rw [sumQ, chain_sum φ h2, h1]; omega

/-- Is it this step? -/
def indS (a b : Int × Int) (s : (Int × Int) × (Int × Int)) : Int := if s.1.1 = a.1 ∧ s.1.2 = a.2 ∧ s.2.1 = b.1 ∧ s.2.2 = b.2 then 1 else 0

def phiK (k : Nat) (v u : Int × Int) : Int := if k = 0 then (if u.2 = v.2 ∧ v.1 + 1 ≤ u.1 then -1 else 0) else if k = 4 then (if u.2 = v.2 ∧ v.1 ≤ u.1 then 1 else 0) else 0

theorem eight {P : Nat → Prop} (h0 : P 0) (h1 : P 1) (h2 : P 2) (h3 : P 3) (h4 : P 4) (h5 : P 5) (h6 : P 6) (h7 : P 7) : ∀ k, k < 8 → P k := fun k hk => by
  match k, hk with
  | 0, _ => exact h0
  | 1, _ => exact h1
  | 2, _ => exact h2
  | 3, _ => exact h3
  | 4, _ => exact h4
  | 5, _ => exact h5
  | 6, _ => exact h6
  | 7, _ => exact h7

theorem crQ_shift (vx vy p q a b c d : Int) : crQ (4 * vx + p) (4 * vy + q) ((vx + a, vy + b), (vx + c, vy + d)) = crQ p q ((a, b), (c, d)) := by
  unfold crQ
  simp only
  have e1 : vx + c - (vx + a) = c - a := by omega
  have e2 : vx + a - (vx + c) = a - c := by omega
  have e3 : 4 * vy + q - 4 * (vy + b) = q - 4 * b := by omega
  have e4 : 4 * vy + q - 4 * (vy + d) = q - 4 * d := by omega
  rw [e1, e2, e3, e4]
  congr 1
  · congr 1
    refine propext ⟨fun ⟨h1, h2, h3⟩ => ⟨by omega, by omega, by omega⟩, fun ⟨h1, h2, h3⟩ => ⟨by omega, by omega, by omega⟩⟩
  · congr 1
    refine propext ⟨fun ⟨h1, h2, h3⟩ => ⟨by omega, by omega, by omega⟩, fun ⟨h1, h2, h3⟩ => ⟨by omega, by omega, by omega⟩⟩

theorem crQ_none {x y : Int} {s : (Int × Int) × (Int × Int)} (h : 4 * s.1.2 ≤ y ↔ 4 * s.2.2 ≤ y) : crQ x y s = 0 := by
  unfold crQ
  rw [if_neg (by omega), if_neg (by omega)]; rfl

/-- The jump at the origin. -/
def Jump0 (k j : Nat) (a b : Int) : Prop :=
  crQ (qX k) (qY k) ((a, b), toK (a, b) j) - crQ (qX ((k + 7) % 8)) (qY ((k + 7) % 8)) ((a, b), toK (a, b) j) = (indS (0, 0) (toK (0, 0) k) ((a, b), toK (a, b) j) - indS (toK (0, 0) k) (0, 0) ((a, b), toK (a, b) j)) + (phiK k (0, 0) (toK (a, b) j) - phiK k (0, 0) (a, b))

theorem qY_bd : ∀ k, k < 8 → -2 ≤ qY k ∧ qY k ≤ 2 := by decide
theorem dY_bd : ∀ k, k < 8 → -1 ≤ dY k ∧ dY k ≤ 1 := by decide

theorem jump_far (a b : Int) (hb : b ≤ -2 ∨ 2 ≤ b) (k j : Nat) (hk : k < 8) (hj : j < 8) : Jump0 k j a b := by
  have h1 := qY_bd k hk
  have h2 := qY_bd ((k + 7) % 8) (by omega)
  have h3 := dY_bd j hj
  have h4 := dY_bd k hk
  unfold Jump0
  rw [crQ_none (by simp only [toK]; omega), crQ_none (by simp only [toK]; omega)]
  have i1 : indS (0, 0) (toK (0, 0) k) ((a, b), toK (a, b) j) = 0 := by unfold indS; rw [if_neg (by simp only [toK]; omega)]
  have i2 : indS (toK (0, 0) k) (0, 0) ((a, b), toK (a, b) j) = 0 := by unfold indS; rw [if_neg (by simp only [toK]; omega)]
  have i3 : phiK k (0, 0) (toK (a, b) j) = 0 := by
    unfold phiK
    rw [if_neg (c := (toK (a, b) j).2 = _ ∧ _) (by simp only [toK]; omega), if_neg (c := (toK (a, b) j).2 = _ ∧ _) (by simp only [toK]; omega)]; simp
  have i4 : phiK k (0, 0) (a, b) = 0 := by
    unfold phiK
    rw [if_neg (c := (a, b).2 = _ ∧ _) (by simp only; omega), if_neg (c := (a, b).2 = _ ∧ _) (by simp only; omega)]; simp
  rw [i1, i2, i3, i4]; rfl

theorem jump_m0 (a : Int) : ∀ j, j < 8 → Jump0 0 j a (-1) := by
  refine eight ?_ ?_ ?_ ?_ ?_ ?_ ?_ ?_ <;> (simp [Jump0, crQ, indS, phiK, toK, dX, dY, qX, qY]; try omega)
theorem jump_m1 (a : Int) : ∀ j, j < 8 → Jump0 1 j a (-1) := by
  refine eight ?_ ?_ ?_ ?_ ?_ ?_ ?_ ?_ <;> (simp [Jump0, crQ, indS, phiK, toK, dX, dY, qX, qY]; try omega)
theorem jump_m2 (a : Int) : ∀ j, j < 8 → Jump0 2 j a (-1) := by
  refine eight ?_ ?_ ?_ ?_ ?_ ?_ ?_ ?_ <;> (simp [Jump0, crQ, indS, phiK, toK, dX, dY, qX, qY]; try omega)
theorem jump_m3 (a : Int) : ∀ j, j < 8 → Jump0 3 j a (-1) := by
  refine eight ?_ ?_ ?_ ?_ ?_ ?_ ?_ ?_ <;> (simp [Jump0, crQ, indS, phiK, toK, dX, dY, qX, qY]; try omega)
theorem jump_m4 (a : Int) : ∀ j, j < 8 → Jump0 4 j a (-1) := by
  refine eight ?_ ?_ ?_ ?_ ?_ ?_ ?_ ?_ <;> (simp [Jump0, crQ, indS, phiK, toK, dX, dY, qX, qY]; try omega)
theorem jump_m5 (a : Int) : ∀ j, j < 8 → Jump0 5 j a (-1) := by
  refine eight ?_ ?_ ?_ ?_ ?_ ?_ ?_ ?_ <;> (simp [Jump0, crQ, indS, phiK, toK, dX, dY, qX, qY]; try omega)
theorem jump_m6 (a : Int) : ∀ j, j < 8 → Jump0 6 j a (-1) := by
  refine eight ?_ ?_ ?_ ?_ ?_ ?_ ?_ ?_ <;> (simp [Jump0, crQ, indS, phiK, toK, dX, dY, qX, qY]; try omega)
theorem jump_m7 (a : Int) : ∀ j, j < 8 → Jump0 7 j a (-1) := by
  refine eight ?_ ?_ ?_ ?_ ?_ ?_ ?_ ?_ <;> (simp [Jump0, crQ, indS, phiK, toK, dX, dY, qX, qY]; try omega)
theorem jump_m (a : Int) : ∀ k, k < 8 → ∀ j, j < 8 → Jump0 k j a (-1) := eight (jump_m0 a) (jump_m1 a) (jump_m2 a) (jump_m3 a) (jump_m4 a) (jump_m5 a) (jump_m6 a) (jump_m7 a)

theorem jump_o0 (a : Int) : ∀ j, j < 8 → Jump0 0 j a 0 := by
  refine eight ?_ ?_ ?_ ?_ ?_ ?_ ?_ ?_ <;> (simp [Jump0, crQ, indS, phiK, toK, dX, dY, qX, qY]; try omega)
theorem jump_o1 (a : Int) : ∀ j, j < 8 → Jump0 1 j a 0 := by
  refine eight ?_ ?_ ?_ ?_ ?_ ?_ ?_ ?_ <;> (simp [Jump0, crQ, indS, phiK, toK, dX, dY, qX, qY]; try omega)
theorem jump_o2 (a : Int) : ∀ j, j < 8 → Jump0 2 j a 0 := by
  refine eight ?_ ?_ ?_ ?_ ?_ ?_ ?_ ?_ <;> (simp [Jump0, crQ, indS, phiK, toK, dX, dY, qX, qY]; try omega)
theorem jump_o3 (a : Int) : ∀ j, j < 8 → Jump0 3 j a 0 := by
  refine eight ?_ ?_ ?_ ?_ ?_ ?_ ?_ ?_ <;> (simp [Jump0, crQ, indS, phiK, toK, dX, dY, qX, qY]; try omega)
theorem jump_o4 (a : Int) : ∀ j, j < 8 → Jump0 4 j a 0 := by
  refine eight ?_ ?_ ?_ ?_ ?_ ?_ ?_ ?_ <;> (simp [Jump0, crQ, indS, phiK, toK, dX, dY, qX, qY]; try omega)
theorem jump_o5 (a : Int) : ∀ j, j < 8 → Jump0 5 j a 0 := by
  refine eight ?_ ?_ ?_ ?_ ?_ ?_ ?_ ?_ <;> (simp [Jump0, crQ, indS, phiK, toK, dX, dY, qX, qY]; try omega)
theorem jump_o6 (a : Int) : ∀ j, j < 8 → Jump0 6 j a 0 := by
  refine eight ?_ ?_ ?_ ?_ ?_ ?_ ?_ ?_ <;> (simp [Jump0, crQ, indS, phiK, toK, dX, dY, qX, qY]; try omega)
theorem jump_o7 (a : Int) : ∀ j, j < 8 → Jump0 7 j a 0 := by
  refine eight ?_ ?_ ?_ ?_ ?_ ?_ ?_ ?_ <;> (simp [Jump0, crQ, indS, phiK, toK, dX, dY, qX, qY]; try omega)
theorem jump_o (a : Int) : ∀ k, k < 8 → ∀ j, j < 8 → Jump0 k j a 0 := eight (jump_o0 a) (jump_o1 a) (jump_o2 a) (jump_o3 a) (jump_o4 a) (jump_o5 a) (jump_o6 a) (jump_o7 a)

theorem jump_p0 (a : Int) : ∀ j, j < 8 → Jump0 0 j a 1 := by
  refine eight ?_ ?_ ?_ ?_ ?_ ?_ ?_ ?_ <;> (simp [Jump0, crQ, indS, phiK, toK, dX, dY, qX, qY]; try omega)
theorem jump_p1 (a : Int) : ∀ j, j < 8 → Jump0 1 j a 1 := by
  refine eight ?_ ?_ ?_ ?_ ?_ ?_ ?_ ?_ <;> (simp [Jump0, crQ, indS, phiK, toK, dX, dY, qX, qY]; try omega)
theorem jump_p2 (a : Int) : ∀ j, j < 8 → Jump0 2 j a 1 := by
  refine eight ?_ ?_ ?_ ?_ ?_ ?_ ?_ ?_ <;> (simp [Jump0, crQ, indS, phiK, toK, dX, dY, qX, qY]; try omega)
theorem jump_p3 (a : Int) : ∀ j, j < 8 → Jump0 3 j a 1 := by
  refine eight ?_ ?_ ?_ ?_ ?_ ?_ ?_ ?_ <;> (simp [Jump0, crQ, indS, phiK, toK, dX, dY, qX, qY]; try omega)
theorem jump_p4 (a : Int) : ∀ j, j < 8 → Jump0 4 j a 1 := by
  refine eight ?_ ?_ ?_ ?_ ?_ ?_ ?_ ?_ <;> (simp [Jump0, crQ, indS, phiK, toK, dX, dY, qX, qY]; try omega)
theorem jump_p5 (a : Int) : ∀ j, j < 8 → Jump0 5 j a 1 := by
  refine eight ?_ ?_ ?_ ?_ ?_ ?_ ?_ ?_ <;> (simp [Jump0, crQ, indS, phiK, toK, dX, dY, qX, qY]; try omega)
theorem jump_p6 (a : Int) : ∀ j, j < 8 → Jump0 6 j a 1 := by
  refine eight ?_ ?_ ?_ ?_ ?_ ?_ ?_ ?_ <;> (simp [Jump0, crQ, indS, phiK, toK, dX, dY, qX, qY]; try omega)
theorem jump_p7 (a : Int) : ∀ j, j < 8 → Jump0 7 j a 1 := by
  refine eight ?_ ?_ ?_ ?_ ?_ ?_ ?_ ?_ <;> (simp [Jump0, crQ, indS, phiK, toK, dX, dY, qX, qY]; try omega)
theorem jump_p (a : Int) : ∀ k, k < 8 → ∀ j, j < 8 → Jump0 k j a 1 := eight (jump_p0 a) (jump_p1 a) (jump_p2 a) (jump_p3 a) (jump_p4 a) (jump_p5 a) (jump_p6 a) (jump_p7 a)

theorem jump_zero (a b : Int) : ∀ k, k < 8 → ∀ j, j < 8 → Jump0 k j a b := fun k hk j hj => by
  by_cases hb : b ≤ -2 ∨ 2 ≤ b
  · exact jump_far a b hb k j hk hj
  · have hb' : b = -1 ∨ b = 0 ∨ b = 1 := by omega
    rcases hb' with rfl | rfl | rfl
    · exact jump_m a k hk j hj
    · exact jump_o a k hk j hj
    · exact jump_p a k hk j hj

theorem phiK_shift (k : Nat) (vx vy a b : Int) : phiK k (vx, vy) (vx + a, vy + b) = phiK k (0, 0) (a, b) := by
  unfold phiK
  simp only
  by_cases h0 : k = 0
  · rw [if_pos h0, if_pos h0]; congr 1; exact propext ⟨fun _ => by omega, fun _ => by omega⟩
  · rw [if_neg h0, if_neg h0]
    by_cases h4 : k = 4
    · rw [if_pos h4, if_pos h4]; congr 1; exact propext ⟨fun _ => by omega, fun _ => by omega⟩
    · rw [if_neg h4, if_neg h4]

/-- Across direction k the count is another one just for the steps along it. -/
theorem jump_one (v : Int × Int) (k : Nat) (hk : k < 8) (s : (Int × Int) × (Int × Int)) (hs : UnitS s) :
    crQ (4 * v.1 + qX k) (4 * v.2 + qY k) s - crQ (4 * v.1 + qX ((k + 7) % 8)) (4 * v.2 + qY ((k + 7) % 8)) s = (indS v (toK v k) s - indS (toK v k) v s) + (phiK k v s.2 - phiK k v s.1) := by
  obtain ⟨j, hj, hs⟩ := hs
  obtain ⟨⟨ax, ay⟩, b⟩ := s
  obtain ⟨vx, vy⟩ := v
  obtain ⟨a, rfl⟩ : ∃ a, ax = vx + a := ⟨ax - vx, by omega⟩
  obtain ⟨c, rfl⟩ : ∃ c, ay = vy + c := ⟨ay - vy, by omega⟩
  simp only at hs
  subst hs
  have h := jump_zero a c k hk j hj
  unfold Jump0 at h
  have e : toK (vx + a, vy + c) j = (vx + (toK (a, c) j).1, vy + (toK (a, c) j).2) := by simp [toK]; omega
  rw [e, crQ_shift, crQ_shift, h]
  congr 1
  · congr 1
    · unfold indS; simp only [toK]; congr 1; refine propext ⟨fun h => ?_, fun h => ?_⟩ <;> omega
    · unfold indS; simp only [toK]; congr 1; refine propext ⟨fun h => ?_, fun h => ?_⟩ <;> omega
  · simp only
    rw [phiK_shift, phiK_shift]

/-- A closed chain of steps. -/
structure RingS (l : List ((Int × Int) × (Int × Int))) : Prop where
  chain : ∃ P, ChainS P l P
  unit : ∀ s ∈ l, UnitS s

theorem jump_ring {l : List ((Int × Int) × (Int × Int))} (h : RingS l) (v : Int × Int) (k : Nat) (hk : k < 8) :
    oK l v k - oK l v ((k + 7) % 8) = sumQ (indS v (toK v k)) l - sumQ (indS (toK v k) v) l := by
  obtain ⟨⟨P, hc⟩, hu⟩ := h
  have h1 := chain_sum (phiK k v) hc
  unfold oK wQ
  rw [← sumQ_sub, sumQ_congr fun s hs => jump_one v k hk s (hu s hs), sumQ_add, sumQ_sub, h1]
  omega

/-- No point is come to twice, and no two steps cross. -/
def midS (s : (Int × Int) × (Int × Int)) : Int × Int := (s.1.1 + s.2.1, s.1.2 + s.2.2)
structure SimpS (l : List ((Int × Int) × (Int × Int))) : Prop extends RingS l where
  starts : (l.map Prod.fst).Nodup
  mids : (l.map midS).Nodup

theorem nodup_inj {α β : Type} {f : α → β} : ∀ {l : List α}, (l.map f).Nodup → ∀ {x y}, x ∈ l → y ∈ l → f x = f y → x = y
  | [], _, _, _, hx, _, _ => by simp at hx
  | a :: l, h, x, y, hx, hy, e => by
    rw [List.map_cons, List.nodup_cons] at h
    rcases List.mem_cons.1 hx with rfl | hx' <;> rcases List.mem_cons.1 hy with rfl | hy'
    · rfl
    · exact absurd (by rw [e]; exact List.mem_map_of_mem hy') h.1
    · exact absurd (by rw [← e]; exact List.mem_map_of_mem hx') h.1
    · exact nodup_inj h.2 hx' hy' e

theorem ind_eq (a b : Int × Int) (s : (Int × Int) × (Int × Int)) : indS a b s = if s = (a, b) then 1 else 0 := by
  obtain ⟨⟨s1, s2⟩, s3, s4⟩ := s
  obtain ⟨a1, a2⟩ := a
  obtain ⟨b1, b2⟩ := b
  simp [indS, and_assoc]

theorem ind_none {a b : Int × Int} {l : List ((Int × Int) × (Int × Int))} (h : (a, b) ∉ l) : sumQ (indS a b) l = 0 :=
  sumQ_zero fun s hs => by rw [ind_eq, if_neg (fun e => h (by rw [← e]; exact hs))]

theorem ind_once {a b : Int × Int} : ∀ {l : List ((Int × Int) × (Int × Int))}, (l.map Prod.fst).Nodup → (a, b) ∈ l → sumQ (indS a b) l = 1
  | [], _, h => by simp at h
  | s :: l, hn, h => by
    rw [List.map_cons, List.nodup_cons] at hn
    rw [sumQ]
    rcases List.mem_cons.1 h with rfl | h'
    · rw [ind_none fun hm => hn.1 (List.mem_map_of_mem hm), ind_eq, if_pos rfl]; rfl
    · rw [ind_once hn.2 h', ind_eq, if_neg fun e => hn.1 (by rw [e]; exact List.mem_map_of_mem (f := Prod.fst) h')]; rfl

theorem ind_le {a b : Int × Int} {l : List ((Int × Int) × (Int × Int))} (h : (l.map Prod.fst).Nodup) : sumQ (indS a b) l = if (a, b) ∈ l then 1 else 0 := by
  split
  · exact ind_once h ‹_›
  · exact ind_none ‹_›

theorem chain_ends : ∀ {l : List ((Int × Int) × (Int × Int))} {P Q : Int × Int}, ChainS P l Q → l.map Prod.fst ++ [Q] = P :: l.map Prod.snd
  | [], P, Q, h => by cases h; rfl
  | s :: l, P, Q, h => by
    obtain ⟨rfl, h2⟩ := h
    rw [List.map_cons, List.cons_append, chain_ends h2, List.map_cons]

theorem SimpS.ends {l : List ((Int × Int) × (Int × Int))} (h : SimpS l) : (l.map Prod.snd).Nodup := by
  obtain ⟨P, hc⟩ := h.chain
  have e := chain_ends hc
  have p : (P :: l.map Prod.fst).Perm (P :: l.map Prod.snd) := by
    rw [← e]
    exact (List.perm_append_comm (l₁ := [P]) (l₂ := l.map Prod.fst))
  exact ((List.perm_cons P).1 p).nodup_iff.1 h.starts

theorem toK_ne (v : Int × Int) : ∀ k, k < 8 → toK v k ≠ v := by
  refine eight ?_ ?_ ?_ ?_ ?_ ?_ ?_ ?_ <;> (intro h; have h1 := congrArg Prod.fst h; have h2 := congrArg Prod.snd h; simp [toK, dX, dY] at h1 h2; try omega)

theorem toK_inj (v : Int × Int) : ∀ i, i < 8 → ∀ j, j < 8 → toK v i = toK v j → i = j := by
  refine eight ?_ ?_ ?_ ?_ ?_ ?_ ?_ ?_ <;> refine eight ?_ ?_ ?_ ?_ ?_ ?_ ?_ ?_ <;> (intro h; have h1 := congrArg Prod.fst h; have h2 := congrArg Prod.snd h; simp [toK, dX, dY] at h1 h2; try omega)

theorem toK_back (v : Int × Int) : ∀ k, k < 8 → toK (toK v k) ((k + 4) % 8) = v := by
  obtain ⟨a, b⟩ := v
  refine eight ?_ ?_ ?_ ?_ ?_ ?_ ?_ ?_ <;> simp [toK, dX, dY] <;> omega

theorem SimpS.no_back {l : List ((Int × Int) × (Int × Int))} (h : SimpS l) {a b : Int × Int} (hm : (a, b) ∈ l) : (b, a) ∉ l := fun hb => by
  have e := nodup_inj h.mids hm hb (by simp [midS]; omega)
  obtain ⟨k, hk, hs⟩ := h.unit _ hm
  exact toK_ne a k hk (by simp at e hs; rw [← hs]; exact e.2)

/-- Where a step of the ring ends and the next one begins nothing else is met: from the one's left to the other's left no step lies between. -/
theorem SimpS.turn {l : List ((Int × Int) × (Int × Int))} (h : SimpS l) {v : Int × Int} {i j : Nat} (hi : i < 8) (hj : j < 8) (ht : (v, toK v i) ∈ l) (hs : (toK v j, v) ∈ l) :
    oK l v i = oK l v ((j + 7) % 8) ∧ ∀ k, k < 8 → oK l v k - oK l v ((k + 7) % 8) = (if k = i then 1 else 0) - (if k = j then 1 else 0) := by
  have hij : i ≠ j := fun e => by subst e; exact h.no_back ht hs
  have hu : ∀ k, k < 8 → oK l v k - oK l v ((k + 7) % 8) = (if k = i then 1 else 0) - (if k = j then 1 else 0) := fun k hk => by
    rw [jump_ring h.toRingS v k hk, ind_le h.starts, ind_le h.starts]
    congr 1
    · by_cases e : k = i
      · subst e; rw [if_pos ht, if_pos rfl]
      · rw [if_neg e, if_neg]
        intro hm
        have := nodup_inj h.starts hm ht rfl
        exact e (toK_inj v k hk i hi (by simpa using this))
    · by_cases e : k = j
      · subst e; rw [if_pos hs, if_pos rfl]
      · rw [if_neg e, if_neg]
        intro hm
        have := nodup_inj h.ends hm hs rfl
        exact e (toK_inj v k hk j hj (by simpa using this))
  refine ⟨?_, hu⟩
  have u0 := hu 0 (by omega)
  have u1 := hu 1 (by omega)
  have u2 := hu 2 (by omega)
  have u3 := hu 3 (by omega)
  have u4 := hu 4 (by omega)
  have u5 := hu 5 (by omega)
  have u6 := hu 6 (by omega)
  have u7 := hu 7 (by omega)
  clear hu
  simp only [Nat.reduceAdd, Nat.reduceMod] at u0 u1 u2 u3 u4 u5 u6 u7
  clear ht hs
  have hi' : i = 0 ∨ i = 1 ∨ i = 2 ∨ i = 3 ∨ i = 4 ∨ i = 5 ∨ i = 6 ∨ i = 7 := by omega
  have hj' : j = 0 ∨ j = 1 ∨ j = 2 ∨ j = 3 ∨ j = 4 ∨ j = 5 ∨ j = 6 ∨ j = 7 := by omega
  clear hi hj
  rcases hi' with rfl | rfl | rfl | rfl | rfl | rfl | rfl | rfl <;> rcases hj' with rfl | rfl | rfl | rfl | rfl | rfl | rfl | rfl <;> simp at hij u0 u1 u2 u3 u4 u5 u6 u7 ⊢ <;> omega

/-- To the left of a step it is the same at its start and at its end. -/
theorem SimpS.along {l : List ((Int × Int) × (Int × Int))} (h : SimpS l) {v : Int × Int} {i : Nat} (hi : i < 8) (ht : (v, toK v i) ∈ l) :
    oK l v i = oK l (toK v i) ((i + 3) % 8) := by
  have key : ∀ k, k < 8 → ∀ u, midS (u, toK u k) = midS (v, toK v i) → (u, toK u k) ≠ (v, toK v i) → (toK u k, u) ≠ (v, toK v i) → oK l u k = oK l u ((k + 7) % 8) := fun k hk u hm h1 h2 => by
    have := jump_ring h.toRingS u k hk
    rw [ind_none (fun hmem => h1 (nodup_inj h.mids hmem ht hm)), ind_none (fun hmem => h2 (nodup_inj h.mids hmem ht (by rw [← hm]; simp [midS]; omega)))] at this
    omega
  obtain ⟨a, b⟩ := v
  revert key
  clear ht
  revert hi
  revert i
  refine @(eight ?_ ?_ ?_ ?_ ?_ ?_ ?_ ?_)
  · intros; simp [oK, toK, dX, dY, qX, qY]; congr 1 <;> omega
  · intro key
    have e := key 7 (by omega) (a, b + 1) (by simp [midS, toK, dX, dY]; omega) (by simp [toK, dX, dY]; try (intros; omega)) (by simp [toK, dX, dY]; try omega)
    simp [oK, toK, dX, dY, qX, qY] at e ⊢
    rw [show 4 * b + 2 = 4 * (b + 1) + -2 by omega, ← e]; congr 1 <;> omega
  · intros; simp [oK, toK, dX, dY, qX, qY]; congr 1 <;> omega
  · intro key
    have e := key 1 (by omega) (a - 1, b) (by simp [midS, toK, dX, dY]; omega) (by simp [toK, dX, dY]; try omega) (by simp [toK, dX, dY]; try omega)
    simp [oK, toK, dX, dY, qX, qY] at e ⊢
    rw [show 4 * a + -2 = 4 * (a - 1) + 2 by omega, ← e]; congr 1 <;> omega
  · intros; simp [oK, toK, dX, dY, qX, qY]; congr 1 <;> omega
  · intro key
    have e := key 3 (by omega) (a, b - 1) (by simp [midS, toK, dX, dY]; omega) (by simp [toK, dX, dY]; try omega) (by simp [toK, dX, dY]; try omega)
    simp [oK, toK, dX, dY, qX, qY] at e ⊢
    rw [show 4 * b + -2 = 4 * (b - 1) + 2 by omega, ← e]; congr 1 <;> omega
  · intros; simp [oK, toK, dX, dY, qX, qY]; congr 1 <;> omega
  · intro key
    have e := key 5 (by omega) (a + 1, b) (by simp [midS, toK, dX, dY]; omega) (by simp [toK, dX, dY]; try omega) (by simp [toK, dX, dY]; try omega)
    simp [oK, toK, dX, dY, qX, qY] at e ⊢
    rw [show 4 * a + 2 = 4 * (a + 1) + -2 by omega, ← e]; congr 1 <;> omega

theorem chain_next {s t : (Int × Int) × (Int × Int)} {b : List ((Int × Int) × (Int × Int))} : ∀ {a : List ((Int × Int) × (Int × Int))} {P Q : Int × Int}, ChainS P (a ++ s :: t :: b) Q → t.1 = s.2
  | [], _, _, h => h.2.1
  | _ :: _, _, _, h => chain_next h.2

/-- What is told of a step's sides. -/
def SideC (l : List ((Int × Int) × (Int × Int))) (c : Int) (s : (Int × Int) × (Int × Int)) : Prop :=
  ∀ k, k < 8 → s.2 = toK s.1 k → oK l s.1 k = c ∧ oK l s.1 ((k + 7) % 8) = c - 1 ∧ oK l s.2 ((k + 3) % 8) = c ∧ oK l s.2 ((k + 4) % 8) = c - 1

theorem SimpS.side {l : List ((Int × Int) × (Int × Int))} (h : SimpS l) {v : Int × Int} {i : Nat} {c : Int} (hi : i < 8) (ht : (v, toK v i) ∈ l) (hc : oK l v i = c) : SideC l c (v, toK v i) := fun k hk hk2 => by
  obtain rfl := toK_inj v i hi k hk hk2
  have j1 := jump_ring h.toRingS v i hi
  rw [ind_once h.starts ht, ind_none (h.no_back ht)] at j1
  have j2 := jump_ring h.toRingS (toK v i) ((i + 4) % 8) (by omega)
  rw [toK_back v i hi, ind_once h.starts ht, ind_none (h.no_back ht)] at j2
  have e := h.along hi ht
  have m : ((i + 4) % 8 + 7) % 8 = (i + 3) % 8 := by omega
  rw [m] at j2
  simp only
  omega

theorem SimpS.all_sides {l : List ((Int × Int) × (Int × Int))} (h : SimpS l) {c : Int} : ∀ (b a : List ((Int × Int) × (Int × Int))) (s : (Int × Int) × (Int × Int)), l = a ++ s :: b → SideC l c s → ∀ t ∈ s :: b, SideC l c t
  | [], a, s, _, hs, t, ht => by simp at ht; subst ht; exact hs
  | u :: b, a, s, e, hs, t, ht => by
    obtain ⟨P, hc⟩ := h.chain
    have hn : u.1 = s.2 := by rw [e] at hc; exact chain_next hc
    rcases List.mem_cons.1 ht with rfl | ht'
    · exact hs
    · refine SimpS.all_sides h b (a ++ [s]) u (by rw [e]; simp) ?_ t ht'
      have hsm : s ∈ l := by rw [e]; simp
      have hum : u ∈ l := by rw [e]; simp
      obtain ⟨k, hk, hk2⟩ := h.unit s hsm
      obtain ⟨i, hi, hi2⟩ := h.unit u hum
      obtain ⟨s1, s2⟩ := s
      obtain ⟨u1, u2⟩ := u
      simp only at hn hk2 hi2
      subst hn hi2
      have hb : s1 = toK u1 ((k + 4) % 8) := by rw [hk2, toK_back s1 k hk]
      have ht2 := (h.turn hi (j := (k + 4) % 8) (by omega) hum (by rw [← hb]; exact hsm)).1
      have hv := hs k hk hk2
      refine h.side hi hum ?_
      rw [ht2, show ((k + 4) % 8 + 7) % 8 = (k + 3) % 8 by omega]
      exact hv.2.2.1

/-- Two neighbours: the same, or the two sides of a step. -/
theorem SimpS.beside {l : List ((Int × Int) × (Int × Int))} (h : SimpS l) {c : Int} (hall : ∀ t ∈ l, SideC l c t) (v : Int × Int) (k : Nat) (hk : k < 8) :
    oK l v k = oK l v ((k + 7) % 8) ∨ (oK l v k = c ∧ oK l v ((k + 7) % 8) = c - 1) ∨ (oK l v k = c - 1 ∧ oK l v ((k + 7) % 8) = c) := by
  by_cases h1 : (v, toK v k) ∈ l
  · have := hall _ h1 k hk rfl
    exact .inr (.inl ⟨this.1, this.2.1⟩)
  by_cases h2 : (toK v k, v) ∈ l
  · have := hall _ h2 ((k + 4) % 8) (by omega) (toK_back v k hk).symm
    rw [show ((k + 4) % 8 + 3) % 8 = (k + 7) % 8 by omega, show ((k + 4) % 8 + 4) % 8 = k by omega] at this
    exact .inr (.inr ⟨this.2.2.2, this.2.2.1⟩)
  · have := jump_ring h.toRingS v k hk
    rw [ind_none h1, ind_none h2] at this
    exact .inl (by omega)

theorem far_right {l : List ((Int × Int) × (Int × Int))} {M : Int} (hM : ∀ s ∈ l, s.1.1 ≤ M ∧ s.2.1 ≤ M) (hu : ∀ s ∈ l, UnitS s) {x y : Int} (hx : 4 * M ≤ x) : wQ x y l = 0 := by
  refine sumQ_zero fun s hs => ?_
  obtain ⟨m1, m2⟩ := hM s hs
  obtain ⟨k, hk, hb⟩ := hu s hs
  obtain ⟨⟨ax, ay⟩, b⟩ := s
  simp only at hb m1 m2
  subst hb
  revert k
  refine eight ?_ ?_ ?_ ?_ ?_ ?_ ?_ ?_ <;> (intro hs m; simp [crQ, toK, dX, dY] at m ⊢; try omega)

/-- A count at a point is nothing, or that of a side of a step; if it is not nothing, one of the two sides counts nothing. -/
def FarC (c w : Int) : Prop := (w = 0 ∨ w = c ∨ w = c - 1) ∧ (w = 0 ∨ c = 0 ∨ c = 1)

theorem FarC.go {c a b : Int} (h : FarC c b) (hab : a = b ∨ (a = c ∧ b = c - 1) ∨ (a = c - 1 ∧ b = c)) : FarC c a := by unfold FarC at *; omega

theorem SimpS.far {l : List ((Int × Int) × (Int × Int))} (h : SimpS l) {c M : Int} (hall : ∀ t ∈ l, SideC l c t) (hM : ∀ s ∈ l, s.1.1 ≤ M ∧ s.2.1 ≤ M) : ∀ (n : Nat) (v : Int × Int), M - v.1 ≤ n → FarC c (oK l v 0)
  | 0, v, hv => by
    have : oK l v 0 = 0 := far_right hM h.unit (by simp [qX]; omega)
    exact ⟨.inl this, .inl this⟩
  | n + 1, v, hv => by
    have ih := SimpS.far h hall hM n (v.1 + 1, v.2) (by simp only; omega)
    have e : oK l v 0 = oK l (v.1 + 1, v.2) 3 := by simp [oK, qX, qY]; congr 1; omega
    rw [e]
    exact ((ih.go (h.beside hall _ 1 (by omega))).go (h.beside hall _ 2 (by omega))).go (h.beside hall _ 3 (by omega))

theorem SimpS.far_all {l : List ((Int × Int) × (Int × Int))} (h : SimpS l) {c M : Int} (hall : ∀ t ∈ l, SideC l c t) (hM : ∀ s ∈ l, s.1.1 ≤ M ∧ s.2.1 ≤ M) (v : Int × Int) : ∀ k, k < 8 → FarC c (oK l v k) := by
  have f0 := h.far hall hM (M - v.1).toNat v (by omega)
  have f1 := f0.go (h.beside hall v 1 (by omega))
  have f2 := f1.go (h.beside hall v 2 (by omega))
  have f3 := f2.go (h.beside hall v 3 (by omega))
  have f4 := f3.go (h.beside hall v 4 (by omega))
  have f5 := f4.go (h.beside hall v 5 (by omega))
  have f6 := f5.go (h.beside hall v 6 (by omega))
  have f7 := f6.go (h.beside hall v 7 (by omega))
  exact eight f0 f1 f2 f3 f4 f5 f6 f7

theorem bound_right : ∀ (l : List ((Int × Int) × (Int × Int))), ∃ M : Int, ∀ s ∈ l, s.1.1 ≤ M ∧ s.2.1 ≤ M
  | [] => ⟨0, by simp⟩
  | s :: l => by
    obtain ⟨M, h⟩ := bound_right l
    refine ⟨max M (max s.1.1 s.2.1), fun t ht => ?_⟩
    rcases List.mem_cons.1 ht with rfl | ht
    · omega
    · have := h t ht; omega

/-- What a ring that is simple goes around. -/
theorem SimpS.jordan {l : List ((Int × Int) × (Int × Int))} (h : SimpS l) (hne : l ≠ []) :
    ∃ c : Int, (c = 0 ∨ c = 1) ∧ (∀ t ∈ l, SideC l c t) ∧ ∀ v k, k < 8 → oK l v k = c ∨ oK l v k = c - 1 := by
  cases l with
  | nil => exact absurd rfl hne
  | cons s l =>
    obtain ⟨k, hk, hk2⟩ := h.unit s (by simp)
    have hm : (s.1, toK s.1 k) ∈ s :: l := by rw [← hk2]; simp
    obtain ⟨c, hc⟩ : ∃ c, oK (s :: l) s.1 k = c := ⟨_, rfl⟩
    have hs : SideC (s :: l) c s := by have := h.side hk hm hc; rw [← hk2] at this; exact this
    have hall := h.all_sides l [] s rfl hs
    obtain ⟨M, hM⟩ := bound_right (s :: l)
    have hf := h.far_all hall hM
    have h0 := hf s.1 k hk
    rw [hc] at h0
    have hc2 : c = 0 ∨ c = 1 := by unfold FarC at h0; omega
    refine ⟨c, hc2, hall, fun v i hi => ?_⟩
    have := hf v i hi
    unfold FarC at this
    omega
end Go.Proofs.Ytafanlbfbfbeoaa
