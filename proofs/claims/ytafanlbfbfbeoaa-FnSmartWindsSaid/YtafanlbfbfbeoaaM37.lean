/- What the proofs over smartclip lean on, part 38 of 48. -/
import Derived.Test.YtafanlbfbfbeoaaM35
import Derived.Test.YtafanlbfbfbeoaaM36
import Derived.Test.YtafanlbfbfbeoaaM33

/- A ring of steps that comes to no point twice, and does not cross itself, goes around each point once or not at all, and always in the same direction: to the left of each of its steps as often as to the left of each other one, and to the right once less. -/
namespace Go.Proofs.Ytafanlbfbfbeoaa

/-- What a step counts at a point, told in quarters. -/
def crQ (x y : Int) (s : (Int × Int) × (Int × Int)) : Int :=
  (if 4 * s.1.2 ≤ y ∧ y < 4 * s.2.2 ∧ x < 4 * s.1.1 + (s.2.1 - s.1.1) * (y - 4 * s.1.2) then 1 else 0) - (if 4 * s.2.2 ≤ y ∧ y < 4 * s.1.2 ∧ x < 4 * s.2.1 + (s.1.1 - s.2.1) * (y - 4 * s.2.2) then 1 else 0)

/-- The eight directions, and the point between each and the next one. -/
def dX (k : Nat) : Int := [1, 1, 0, -1, -1, -1, 0, 1].getD k 0
def dY (k : Nat) : Int := [0, 1, 1, 1, 0, -1, -1, -1].getD k 0
def qX (k : Nat) : Int := [2, 1, -1, -2, -2, -1, 1, 2].getD k 0
def qY (k : Nat) : Int := [1, 2, 2, 1, -1, -2, -2, -1].getD k 0

def toK (v : Int × Int) (k : Nat) : Int × Int := (v.1 + dX k, v.2 + dY k)

/-- A step in one of the eight directions. -/
def UnitS (s : (Int × Int) × (Int × Int)) : Prop := ∃ k, k < 8 ∧ s.2 = toK s.1 k

/-- All that steps count. -/
def sumQ (f : (Int × Int) × (Int × Int) → Int) : List ((Int × Int) × (Int × Int)) → Int
  | [] => 0
  | s :: l => f s + sumQ f l

def wQ (x y : Int) (l : List ((Int × Int) × (Int × Int))) : Int := sumQ (crQ x y) l

/-- .. at the point between direction k and the next one. -/
def oK (l : List ((Int × Int) × (Int × Int))) (v : Int × Int) (k : Nat) : Int := wQ (4 * v.1 + qX k) (4 * v.2 + qY k) l

/-- A chain of steps. -/
def ChainS : Int × Int → List ((Int × Int) × (Int × Int)) → Int × Int → Prop
  | P, [], Q => P = Q
  | P, s :: l, Q => s.1 = P ∧ ChainS s.2 l Q

theorem sumQ_append (f : (Int × Int) × (Int × Int) → Int) : ∀ a b, sumQ f (a ++ b) = sumQ f a + sumQ f b
  | [], b => by simp [sumQ]
  | s :: a, b => by rw [List.cons_append, sumQ, sumQ, sumQ_append f a b]; omega

theorem sumQ_congr {f g : (Int × Int) × (Int × Int) → Int} : ∀ {l : List ((Int × Int) × (Int × Int))}, (∀ s ∈ l, f s = g s) → sumQ f l = sumQ g l
  | [], _ => rfl
  | s :: l, h => by rw [sumQ, sumQ, h s (by simp), sumQ_congr fun t ht => h t (by simp [ht])]

theorem sumQ_add (f g : (Int × Int) × (Int × Int) → Int) : ∀ l, sumQ (fun s => f s + g s) l = sumQ f l + sumQ g l
  | [] => rfl
  | s :: l => by simp only [sumQ]; rw [sumQ_add f g l]; omega

theorem sumQ_sub (f g : (Int × Int) × (Int × Int) → Int) : ∀ l, sumQ (fun s => f s - g s) l = sumQ f l - sumQ g l
  | [] => rfl
  | s :: l => by simp only [sumQ]; rw [sumQ_sub f g l]; omega

theorem sumQ_zero {f : (Int × Int) × (Int × Int) → Int} : ∀ {l : List ((Int × Int) × (Int × Int))}, (∀ s ∈ l, f s = 0) → sumQ f l = 0
  | [], _ => rfl
  | s :: l, h => by rw [sumQ, h s (by simp), sumQ_zero fun t ht => h t (by simp [ht])]; rfl

/-- What is told by the ends alone falls together. -/
theorem chain_sum (φ : Int × Int → Int) : ∀ {l : List ((Int × Int) × (Int × Int))} {P Q : Int × Int}, ChainS P l Q → sumQ (fun s => φ s.2 - φ s.1) l = φ Q - φ P
  | [], P, Q, h => by cases h; simp [sumQ]
  | s :: l, P, Q, h => by
    obtain ⟨h1, h2⟩ := h
    rw [sumQ, chain_sum φ h2, h1]; omega

/-- Is it this step? -/
def indS (a b : Int × Int) (s : (Int × Int) × (Int × Int)) : Int := if s.1.1 = a.1 ∧ s.1.2 = a.2 ∧ s.2.1 = b.1 ∧ s.2.2 = b.2 then 1 else 0

def phiK (k : Nat) (v u : Int × Int) : Int := if k = 0 then (if u.2 = v.2 ∧ v.1 + 1 ≤ u.1 then -1 else 0) else if k = 4 then (if u.2 = v.2 ∧ v.1 ≤ u.1 then 1 else 0) else 0

theorem eight {P : Nat → Prop} (h0 : P 0) (h1 : P 1) (h2 : P 2) (h3 : P 3) (h4 : P 4) (h5 : P 5) (h6 : P 6) (h7 : P 7) : ∀ k, k < 8 → P k := fun k hk => by
  match k, hk with
  | 0, _ => exact h0
  | 1, _ => exact h1
  | 2, _ => exact h2
  | 3, _ => exact h3
  | 4, _ => exact h4
  | 5, _ => exact h5
  | 6, _ => exact h6
  | 7, _ => exact h7

theorem crQ_shift (vx vy p q a b c d : Int) : crQ (4 * vx + p) (4 * vy + q) ((vx + a, vy + b), (vx + c, vy + d)) = crQ p q ((a, b), (c, d)) := by
  unfold crQ
  simp only
  have e1 : vx + c - (vx + a) = c - a := by omega
  have e2 : vx + a - (vx + c) = a - c := by omega
  have e3 : 4 * vy + q - 4 * (vy + b) = q - 4 * b := by omega
  have e4 : 4 * vy + q - 4 * (vy + d) = q - 4 * d := by omega
  rw [e1, e2, e3, e4]
  congr 1
  · congr 1
    refine propext ⟨fun ⟨h1, h2, h3⟩ => ⟨by omega, by omega, by omega⟩, fun ⟨h1, h2, h3⟩ => ⟨by omega, by omega, by omega⟩⟩
  · congr 1
    refine propext ⟨fun ⟨h1, h2, h3⟩ => ⟨by omega, by omega, by omega⟩, fun ⟨h1, h2, h3⟩ => ⟨by omega, by omega, by omega⟩⟩

theorem crQ_none {x y : Int} {s : (Int × Int) × (Int × Int)} (h : 4 * s.1.2 ≤ y ↔ 4 * s.2.2 ≤ y) : crQ x y s = 0 := by
  unfold crQ
  rw [if_neg (by omega), if_neg (by omega)]; rfl

/-- The jump at the origin. -/
def Jump0 (k j : Nat) (a b : Int) : Prop :=
  crQ (qX k) (qY k) ((a, b), toK (a, b) j) - crQ (qX ((k + 7) % 8)) (qY ((k + 7) % 8)) ((a, b), toK (a, b) j) = (indS (0, 0) (toK (0, 0) k) ((a, b), toK (a, b) j) - indS (toK (0, 0) k) (0, 0) ((a, b), toK (a, b) j)) + (phiK k (0, 0) (toK (a, b) j) - phiK k (0, 0) (a, b))

theorem qY_bd : ∀ k, k < 8 → -2 ≤ qY k ∧ qY k ≤ 2 := by decide
theorem dY_bd : ∀ k, k < 8 → -1 ≤ dY k ∧ dY k ≤ 1 := by decide

theorem jump_far (a b : Int) (hb : b ≤ -2 ∨ 2 ≤ b) (k j : Nat) (hk : k < 8) (hj : j < 8) : Jump0 k j a b := by
  have h1 := qY_bd k hk
  have h2 := qY_bd ((k + 7) % 8) (by omega)
  have h3 := dY_bd j hj
  have h4 := dY_bd k hk
  unfold Jump0
  rw [crQ_none (by simp only [toK]; omega), crQ_none (by simp only [toK]; omega)]
  have i1 : indS (0, 0) (toK (0, 0) k) ((a, b), toK (a, b) j) = 0 := by unfold indS; rw [if_neg (by simp only [toK]; omega)]
  have i2 : indS (toK (0, 0) k) (0, 0) ((a, b), toK (a, b) j) = 0 := by unfold indS; rw [if_neg (by simp only [toK]; omega)]
  have i3 : phiK k (0, 0) (toK (a, b) j) = 0 := by
    unfold phiK
    rw [if_neg (c := (toK (a, b) j).2 = _ ∧ _) (by simp only [toK]; omega), if_neg (c := (toK (a, b) j).2 = _ ∧ _) (by simp only [toK]; omega)]; simp
  have i4 : phiK k (0, 0) (a, b) = 0 := by
    unfold phiK
    rw [if_neg (c := (a, b).2 = _ ∧ _) (by simp only; omega), if_neg (c := (a, b).2 = _ ∧ _) (by simp only; omega)]; simp
  rw [i1, i2, i3, i4]; rfl

theorem jump_m0 (a : Int) : ∀ j, j < 8 → Jump0 0 j a (-1) := by
  refine eight ?_ ?_ ?_ ?_ ?_ ?_ ?_ ?_ <;> (simp [Jump0, crQ, indS, phiK, toK, dX, dY, qX, qY]; try omega)
theorem jump_m1 (a : Int) : ∀ j, j < 8 → Jump0 1 j a (-1) := by
  refine eight ?_ ?_ ?_ ?_ ?_ ?_ ?_ ?_ <;> (simp [Jump0, crQ, indS, phiK, toK, dX, dY, qX, qY]; try omega)
theorem jump_m2 (a : Int) : ∀ j, j < 8 → Jump0 2 j a (-1) := by
  refine eight ?_ ?_ ?_ ?_ ?_ ?_ ?_ ?_ <;> (simp [Jump0, crQ, indS, phiK, toK, dX, dY, qX, qY]; try omega)
theorem jump_m3 (a : Int) : ∀ j, j < 8 → Jump0 3 j a (-1) := by
  refine eight ?_ ?_ ?_ ?_ ?_ ?_ ?_ ?_ <;> (simp [Jump0, crQ, indS, phiK, toK, dX, dY, qX, qY]; try omega)
theorem jump_m4 (a : Int) : ∀ j, j < 8 → Jump0 4 j a (-1) := by
  refine eight ?_ ?_ ?_ ?_ ?_ ?_ ?_ ?_ <;> (simp [Jump0, crQ, indS, phiK, toK, dX, dY, qX, qY]; try omega)
theorem jump_m5 (a : Int) : ∀ j, j < 8 → Jump0 5 j a (-1) := by
  refine eight ?_ ?_ ?_ ?_ ?_ ?_ ?_ ?_ <;> (simp [Jump0, crQ, indS, phiK, toK, dX, dY, qX, qY]; try omega)
theorem jump_m6 (a : Int) : ∀ j, j < 8 → Jump0 6 j a (-1) := by
  refine eight ?_ ?_ ?_ ?_ ?_ ?_ ?_ ?_ <;> (simp [Jump0, crQ, indS, phiK, toK, dX, dY, qX, qY]; try omega)
theorem jump_m7 (a : Int) : ∀ j, j < 8 → Jump0 7 j a (-1) := by
  refine eight ?_ ?_ ?_ ?_ ?_ ?_ ?_ ?_ <;> (simp [Jump0, crQ, indS, phiK, toK, dX, dY, qX, qY]; try omega)
theorem jump_m (a : Int) : ∀ k, k < 8 → ∀ j, j < 8 → Jump0 k j a (-1) := eight (jump_m0 a) (jump_m1 a) (jump_m2 a) (jump_m3 a) (jump_m4 a) (jump_m5 a) (jump_m6 a) (jump_m7 a)

theorem jump_o0 (a : Int) : ∀ j, j < 8 → Jump0 0 j a 0 := by
  refine eight ?_ ?_ ?_ ?_ ?_ ?_ ?_ ?_ <;> (simp [Jump0, crQ, indS, phiK, toK, dX, dY, qX, qY]; try omega)
theorem jump_o1 (a : Int) : ∀ j, j < 8 → Jump0 1 j a 0 := by
  refine eight ?_ ?_ ?_ ?_ ?_ ?_ ?_ ?_ <;> (simp [Jump0, crQ, indS, phiK, toK, dX, dY, qX, qY]; try omega)
theorem jump_o2 (a : Int) : ∀ j, j < 8 → Jump0 2 j a 0 := by
  refine eight ?_ ?_ ?_ ?_ ?_ ?_ ?_ ?_ <;> (simp [Jump0, crQ, indS, phiK, toK, dX, dY, qX, qY]; try omega)
theorem jump_o3 (a : Int) : ∀ j, j < 8 → Jump0 3 j a 0 := by
  refine eight ?_ ?_ ?_ ?_ ?_ ?_ ?_ ?_ <;> (simp [Jump0, crQ, indS, phiK, toK, dX, dY, qX, qY]; try omega)
theorem jump_o4 (a : Int) : ∀ j, j < 8 → Jump0 4 j a 0 := by
  refine eight ?_ ?_ ?_ ?_ ?_ ?_ ?_ ?_ <;> (simp [Jump0, crQ, indS, phiK, toK, dX, dY, qX, qY]; try omega)
theorem jump_o5 (a : Int) : ∀ j, j < 8 → Jump0 5 j a 0 := by
  refine eight ?_ ?_ ?_ ?_ ?_ ?_ ?_ ?_ <;> (simp [Jump0, crQ, indS, phiK, toK, dX, dY, qX, qY]; try omega)
theorem jump_o6 (a : Int) : ∀ j, j < 8 → Jump0 6 j a 0 := by
  refine eight ?_ ?_ ?_ ?_ ?_ ?_ ?_ ?_ <;> (simp [Jump0, crQ, indS, phiK, toK, dX, dY, qX, qY]; try omega)
theorem jump_o7 (a : Int) : ∀ j, j < 8 → Jump0 7 j a 0 := by
  refine eight ?_ ?_ ?_ ?_ ?_ ?_ ?_ ?_ <;> (simp [Jump0, crQ, indS, phiK, toK, dX, dY, qX, qY]; try omega)
theorem jump_o (a : Int) : ∀ k, k < 8 → ∀ j, j < 8 → Jump0 k j a 0 := eight (jump_o0 a) (jump_o1 a) (jump_o2 a) (jump_o3 a) (jump_o4 a) (jump_o5 a) (jump_o6 a) (jump_o7 a)

theorem jump_p0 (a : Int) : ∀ j, j < 8 → Jump0 0 j a 1 := by
  refine eight ?_ ?_ ?_ ?_ ?_ ?_ ?_ ?_ <;> (simp [Jump0, crQ, indS, phiK, toK, dX, dY, qX, qY]; try omega)
theorem jump_p1 (a : Int) : ∀ j, j < 8 → Jump0 1 j a 1 := by
  refine eight ?_ ?_ ?_ ?_ ?_ ?_ ?_ ?_ <;> (simp [Jump0, crQ, indS, phiK, toK, dX, dY, qX, qY]; try omega)
theorem jump_p2 (a : Int) : ∀ j, j < 8 → Jump0 2 j a 1 := by
  refine eight ?_ ?_ ?_ ?_ ?_ ?_ ?_ ?_ <;> (simp [Jump0, crQ, indS, phiK, toK, dX, dY, qX, qY]; try omega)
theorem jump_p3 (a : Int) : ∀ j, j < 8 → Jump0 3 j a 1 := by
  refine eight ?_ ?_ ?_ ?_ ?_ ?_ ?_ ?_ <;> (simp [Jump0, crQ, indS, phiK, toK, dX, dY, qX, qY]; try omega)
theorem jump_p4 (a : Int) : ∀ j, j < 8 → Jump0 4 j a 1 := by
  refine eight ?_ ?_ ?_ ?_ ?_ ?_ ?_ ?_ <;> (simp [Jump0, crQ, indS, phiK, toK, dX, dY, qX, qY]; try omega)
theorem jump_p5 (a : Int) : ∀ j, j < 8 → Jump0 5 j a 1 := by
  refine eight ?_ ?_ ?_ ?_ ?_ ?_ ?_ ?_ <;> (simp [Jump0, crQ, indS, phiK, toK, dX, dY, qX, qY]; try omega)
theorem jump_p6 (a : Int) : ∀ j, j < 8 → Jump0 6 j a 1 := by
  refine eight ?_ ?_ ?_ ?_ ?_ ?_ ?_ ?_ <;> (simp [Jump0, crQ, indS, phiK, toK, dX, dY, qX, qY]; try omega)
theorem jump_p7 (a : Int) : ∀ j, j < 8 → Jump0 7 j a 1 := by
  refine eight ?_ ?_ ?_ ?_ ?_ ?_ ?_ ?_ <;> (simp [Jump0, crQ, indS, phiK, toK, dX, dY, qX, qY]; try omega)
theorem jump_p (a : Int) : ∀ k, k < 8 → ∀ j, j < 8 → Jump0 k j a 1 := eight (jump_p0 a) (jump_p1 a) (jump_p2 a) (jump_p3 a) (jump_p4 a) (jump_p5 a) (jump_p6 a) (jump_p7 a)

theorem jump_zero (a b : Int) : ∀ k, k < 8 → ∀ j, j < 8 → Jump0 k j a b := fun k hk j hj => by
  by_cases hb : b ≤ -2 ∨ 2 ≤ b
  · exact jump_far a b hb k j hk hj
  · have hb' : b = -1 ∨ b = 0 ∨ b = 1 := by omega
    rcases hb' with rfl | rfl | rfl
    · exact jump_m a k hk j hj
    · exact jump_o a k hk j hj
    · exact jump_p a k hk j hj

theorem phiK_shift (k : Nat) (vx vy a b : Int) : phiK k (vx, vy) (vx + a, vy + b) = phiK k (0, 0) (a, b) := by
  unfold phiK
  simp only
  by_cases h0 : k = 0
  · rw [if_pos h0, if_pos h0]; congr 1; exact propext ⟨fun _ => by omega, fun _ => by omega⟩
  · rw [if_neg h0, if_neg h0]
    by_cases h4 : k = 4
    · rw [if_pos h4, if_pos h4]; congr 1; exact propext ⟨fun _ => by omega, fun _ => by omega⟩
    · rw [if_neg h4, if_neg h4]

/-- Across direction k the count is another one just for the steps along it. -/
theorem jump_one (v : Int × Int) (k : Nat) (hk : k < 8) (s : (Int × Int) × (Int × Int)) (hs : UnitS s) :
    crQ (4 * v.1 + qX k) (4 * v.2 + qY k) s - crQ (4 * v.1 + qX ((k + 7) % 8)) (4 * v.2 + qY ((k + 7) % 8)) s = (indS v (toK v k) s - indS (toK v k) v s) + (phiK k v s.2 - phiK k v s.1) := by
  obtain ⟨j, hj, hs⟩ := hs
  obtain ⟨⟨ax, ay⟩, b⟩ := s
  obtain ⟨vx, vy⟩ := v
  obtain ⟨a, rfl⟩ : ∃ a, ax = vx + a := ⟨ax - vx, by omega⟩
  obtain ⟨c, rfl⟩ : ∃ c, ay = vy + c := ⟨ay - vy, by omega⟩
  simp only at hs
  subst hs
  have h := jump_zero a c k hk j hj
  unfold Jump0 at h
  have e : toK (vx + a, vy + c) j = (vx + (toK (a, c) j).1, vy + (toK (a, c) j).2) := by simp [toK]; omega
  rw [e, crQ_shift, crQ_shift, h]
  congr 1
  · congr 1
    · unfold indS; simp only [toK]; congr 1; refine propext ⟨fun h => ?_, fun h => ?_⟩ <;> omega
    · unfold indS; simp only [toK]; congr 1; refine propext ⟨fun h => ?_, fun h => ?_⟩ <;> omega
  · simp only
    rw [phiK_shift, phiK_shift]

/-- A closed chain of steps. -/
structure RingS (l : List ((Int × Int) × (Int × Int))) : Prop where
  chain : ∃ P, ChainS P l P
  unit : ∀ s ∈ l, UnitS s

theorem jump_ring {l : List ((Int × Int) × (Int × Int))} (h : RingS l) (v : Int × Int) (k : Nat) (hk : k < 8) :
    oK l v k - oK l v ((k + 7) % 8) = sumQ (indS v (toK v k)) l - sumQ (indS (toK v k) v) l := by
  obtain ⟨⟨P, hc⟩, hu⟩ := h
  have h1 := chain_sum (phiK k v) hc
  unfold oK wQ
  rw [← sumQ_sub, sumQ_congr fun s hs => jump_one v k hk s (hu s hs), sumQ_add, sumQ_sub, h1]
  omega

/-- No point is come to twice, and no two steps cross. -/
def midS (s : (Int × Int) × (Int × Int)) : Int × Int := (s.1.1 + s.2.1, s.1.2 + s.2.2)
structure SimpS (l : List ((Int × Int) × (Int × Int))) : Prop extends RingS l where
  starts : (l.map Prod.fst).Nodup
  mids : (l.map midS).Nodup

theorem nodup_inj {α β : Type} {f : α → β} : ∀ {l : List α}, (l.map f).Nodup → ∀ {x y}, x ∈ l → y ∈ l → f x = f y → x = y
  | [], _, _, _, hx, _, _ => by simp at hx
  | a :: l, h, x, y, hx, hy, e => by
    rw [List.map_cons, List.nodup_cons] at h
    rcases List.mem_cons.1 hx with rfl | hx' <;> rcases List.mem_cons.1 hy with rfl | hy'
    · rfl
    · exact absurd (by rw [e]; exact List.mem_map_of_mem hy') h.1
    · exact absurd (by rw [← e]; exact List.mem_map_of_mem hx') h.1
    · exact nodup_inj h.2 hx' hy' e

theorem ind_eq (a b : Int × Int) (s : (Int × Int) × (Int × Int)) : indS a b s = if s = (a, b) then 1 else 0 := by
  obtain ⟨⟨s1, s2⟩, s3, s4⟩ := s
  obtain ⟨a1, a2⟩ := a
  obtain ⟨b1, b2⟩ := b
  simp [indS, and_assoc]

theorem ind_none {a b : Int × Int} {l : List ((Int × Int) × (Int × Int))} (h : (a, b) ∉ l) : sumQ (indS a b) l = 0 :=
  sumQ_zero fun s hs => by rw [ind_eq, if_neg (fun e => h (by rw [← e]; exact hs))]

theorem ind_once {a b : Int × Int} : ∀ {l : List ((Int × Int) × (Int × Int))}, (l.map Prod.fst).Nodup → (a, b) ∈ l → sumQ (indS a b) l = 1
  | [], _, h => by simp at h
  | s :: l, hn, h => by
    rw [List.map_cons, List.nodup_cons] at hn
    rw [sumQ]
    rcases List.mem_cons.1 h with rfl | h'
    · rw [ind_none fun hm => hn.1 (List.mem_map_of_mem hm), ind_eq, if_pos rfl]; rfl
    · rw [ind_once hn.2 h', ind_eq, if_neg fun e => hn.1 (by rw [e]; exact List.mem_map_of_mem (f := Prod.fst) h')]; rfl

theorem ind_le {a b : Int × Int} {l : List ((Int × Int) × (Int × Int))} (h : (l.map Prod.fst).Nodup) : sumQ (indS a b) l = if (a, b) ∈ l then 1 else 0 := by
  split
  · exact ind_once h ‹_›
  · exact ind_none ‹_›

theorem chain_ends : ∀ {l : List ((Int × Int) × (Int × Int))} {P Q : Int × Int}, ChainS P l Q → l.map Prod.fst ++ [Q] = P :: l.map Prod.snd
  | [], P, Q, h => by cases h; rfl
  | s :: l, P, Q, h => by
    obtain ⟨rfl, h2⟩ := h
    rw [List.map_cons, List.cons_append, chain_ends h2, List.map_cons]

theorem SimpS.ends {l : List ((Int × Int) × (Int × Int))} (h : SimpS l) : (l.map Prod.snd).Nodup := by
  obtain ⟨P, hc⟩ := h.chain
  have e := chain_ends hc
  have p : (P :: l.map Prod.fst).Perm (P :: l.map Prod.snd) := by
    rw [← e]
    exact (List.perm_append_comm (l₁ := [P]) (l₂ := l.map Prod.fst))
  exact ((List.perm_cons P).1 p).nodup_iff.1 h.starts

theorem toK_ne (v : Int × Int) : ∀ k, k < 8 → toK v k ≠ v := by
  refine eight ?_ ?_ ?_ ?_ ?_ ?_ ?_ ?_ <;> (intro h; have h1 := congrArg Prod.fst h; have h2 := congrArg Prod.snd h; simp [toK, dX, dY] at h1 h2; try omega)

theorem toK_inj (v : Int × Int) : ∀ i, i < 8 → ∀ j, j < 8 → toK v i = toK v j → i = j := by
  refine eight ?_ ?_ ?_ ?_ ?_ ?_ ?_ ?_ <;> refine eight ?_ ?_ ?_ ?_ ?_ ?_ ?_ ?_ <;> (intro h; have h1 := congrArg Prod.fst h; have h2 := congrArg Prod.snd h; simp [toK, dX, dY] at h1 h2; try omega)

theorem toK_back (v : Int × Int) : ∀ k, k < 8 → toK (toK v k) ((k + 4) % 8) = v := by
  obtain ⟨a, b⟩ := v
  refine eight ?_ ?_ ?_ ?_ ?_ ?_ ?_ ?_ <;> simp [toK, dX, dY] <;> omega

theorem SimpS.no_back {l : List ((Int × Int) × (Int × Int))} (h : SimpS l) {a b : Int × Int} (hm : (a, b) ∈ l) : (b, a) ∉ l := fun hb => by
  have e := nodup_inj h.mids hm hb (by simp [midS]; omega)
  obtain ⟨k, hk, hs⟩ := h.unit _ hm
  exact toK_ne a k hk (by simp at e hs; rw [← hs]; exact e.2)

/-- Where a step of the ring ends and the next one begins nothing else is met: from the one's left to the other's left no step lies between. -/
theorem SimpS.turn {l : List ((Int × Int) × (Int × Int))} (h : SimpS l) {v : Int × Int} {i j : Nat} (hi : i < 8) (hj : j < 8) (ht : (v, toK v i) ∈ l) (hs : (toK v j, v) ∈ l) :
    oK l v i = oK l v ((j + 7) % 8) ∧ ∀ k, k < 8 → oK l v k - oK l v ((k + 7) % 8) = (if k = i then 1 else 0) - (if k = j then 1 else 0) := by
  have hij : i ≠ j := fun e => by subst e; exact h.no_back ht hs
  have hu : ∀ k, k < 8 → oK l v k - oK l v ((k + 7) % 8) = (if k = i then 1 else 0) - (if k = j then 1 else 0) := fun k hk => by
    rw [jump_ring h.toRingS v k hk, ind_le h.starts, ind_le h.starts]
    congr 1
    · by_cases e : k = i
      · subst e; rw [if_pos ht, if_pos rfl]
      · rw [if_neg e, if_neg]
        intro hm
        have := nodup_inj h.starts hm ht rfl
        exact e (toK_inj v k hk i hi (by simpa using this))
    · by_cases e : k = j
      · subst e; rw [if_pos hs, if_pos rfl]
      · rw [if_neg e, if_neg]
        intro hm
        have := nodup_inj h.ends hm hs rfl
        exact e (toK_inj v k hk j hj (by simpa using this))
  refine ⟨?_, hu⟩
  have u0 := hu 0 (by omega)
  have u1 := hu 1 (by omega)
  have u2 := hu 2 (by omega)
  have u3 := hu 3 (by omega)
  have u4 := hu 4 (by omega)
  have u5 := hu 5 (by omega)
  have u6 := hu 6 (by omega)
  have u7 := hu 7 (by omega)
  clear hu
  simp only [Nat.reduceAdd, Nat.reduceMod] at u0 u1 u2 u3 u4 u5 u6 u7
  clear ht hs
  have hi' : i = 0 ∨ i = 1 ∨ i = 2 ∨ i = 3 ∨ i = 4 ∨ i = 5 ∨ i = 6 ∨ i = 7 := by omega
  have hj' : j = 0 ∨ j = 1 ∨ j = 2 ∨ j = 3 ∨ j = 4 ∨ j = 5 ∨ j = 6 ∨ j = 7 := by omega
  clear hi hj
  rcases hi' with rfl | rfl | rfl | rfl | rfl | rfl | rfl | rfl <;> rcases hj' with rfl | rfl | rfl | rfl | rfl | rfl | rfl | rfl <;> simp at hij u0 u1 u2 u3 u4 u5 u6 u7 ⊢ <;> omega

/-- To the left of a step it is the same at its start and at its end. -/
theorem SimpS.along {l : List ((Int × Int) × (Int × Int))} (h : SimpS l) {v : Int × Int} {i : Nat} (hi : i < 8) (ht : (v, toK v i) ∈ l) :
    oK l v i = oK l (toK v i) ((i + 3) % 8) := by
  have key : ∀ k, k < 8 → ∀ u, midS (u, toK u k) = midS (v, toK v i) → (u, toK u k) ≠ (v, toK v i) → (toK u k, u) ≠ (v, toK v i) → oK l u k = oK l u ((k + 7) % 8) := fun k hk u hm h1 h2 => by
    have := jump_ring h.toRingS u k hk
    rw [ind_none (fun hmem => h1 (nodup_inj h.mids hmem ht hm)), ind_none (fun hmem => h2 (nodup_inj h.mids hmem ht (by rw [← hm]; simp [midS]; omega)))] at this
    omega
  obtain ⟨a, b⟩ := v
  revert key
  clear ht
  revert hi
  revert i
  refine @(eight ?_ ?_ ?_ ?_ ?_ ?_ ?_ ?_)
  · intros; simp [oK, toK, dX, dY, qX, qY]; congr 1 <;> omega
  · intro key
    have e := key 7 (by omega) (a, b + 1) (by simp [midS, toK, dX, dY]; omega) (by simp [toK, dX, dY]; try (intros; omega)) (by simp [toK, dX, dY]; try omega)
    simp [oK, toK, dX, dY, qX, qY] at e ⊢
    rw [show 4 * b + 2 = 4 * (b + 1) + -2 by omega, ← e]; congr 1 <;> omega
  · intros; simp [oK, toK, dX, dY, qX, qY]; congr 1 <;> omega
  · intro key
    have e := key 1 (by omega) (a - 1, b) (by simp [midS, toK, dX, dY]; omega) (by simp [toK, dX, dY]; try omega) (by simp [toK, dX, dY]; try omega)
    simp [oK, toK, dX, dY, qX, qY] at e ⊢
    rw [show 4 * a + -2 = 4 * (a - 1) + 2 by omega, ← e]; congr 1 <;> omega
  · intros; simp [oK, toK, dX, dY, qX, qY]; congr 1 <;> omega
  · intro key
    have e := key 3 (by omega) (a, b - 1) (by simp [midS, toK, dX, dY]; omega) (by simp [toK, dX, dY]; try omega) (by simp [toK, dX, dY]; try omega)
    simp [oK, toK, dX, dY, qX, qY] at e ⊢
    rw [show 4 * b + -2 = 4 * (b - 1) + 2 by omega, ← e]; congr 1 <;> omega
  · intros; simp [oK, toK, dX, dY, qX, qY]; congr 1 <;> omega
  · intro key
    have e := key 5 (by omega) (a + 1, b) (by simp [midS, toK, dX, dY]; omega) (by simp [toK, dX, dY]; try omega) (by simp [toK, dX, dY]; try omega)
    simp [oK, toK, dX, dY, qX, qY] at e ⊢
    rw [show 4 * a + 2 = 4 * (a + 1) + -2 by omega, ← e]; congr 1 <;> omega

theorem chain_next {s t : (Int × Int) × (Int × Int)} {b : List ((Int × Int) × (Int × Int))} : ∀ {a : List ((Int × Int) × (Int × Int))} {P Q : Int × Int}, ChainS P (a ++ s :: t :: b) Q → t.1 = s.2
  | [], _, _, h => h.2.1
  | _ :: _, _, _, h => chain_next h.2

/-- What is told of a step's sides. -/
def SideC (l : List ((Int × Int) × (Int × Int))) (c : Int) (s : (Int × Int) × (Int × Int)) : Prop :=
  ∀ k, k < 8 → s.2 = toK s.1 k → oK l s.1 k = c ∧ oK l s.1 ((k + 7) % 8) = c - 1 ∧ oK l s.2 ((k + 3) % 8) = c ∧ oK l s.2 ((k + 4) % 8) = c - 1

theorem SimpS.side {l : List ((Int × Int) × (Int × Int))} (h : SimpS l) {v : Int × Int} {i : Nat} {c : Int} (hi : i < 8) (ht : (v, toK v i) ∈ l) (hc : oK l v i = c) : SideC l c (v, toK v i) := fun k hk hk2 => by
  obtain rfl := toK_inj v i hi k hk hk2
  have j1 := jump_ring h.toRingS v i hi
  rw [ind_once h.starts ht, ind_none (h.no_back ht)] at j1
  have j2 := jump_ring h.toRingS (toK v i) ((i + 4) % 8) (by omega)
  rw [toK_back v i hi, ind_once h.starts ht, ind_none (h.no_back ht)] at j2
  have e := h.along hi ht
  have m : ((i + 4) % 8 + 7) % 8 = (i + 3) % 8 := by omega
  rw [m] at j2
  simp only
  omega

theorem SimpS.all_sides {l : List ((Int × Int) × (Int × Int))} (h : SimpS l) {c : Int} : ∀ (b a : List ((Int × Int) × (Int × Int))) (s : (Int × Int) × (Int × Int)), l = a ++ s :: b → SideC l c s → ∀ t ∈ s :: b, SideC l c t
  | [], a, s, _, hs, t, ht => by simp at ht; subst ht; exact hs
  | u :: b, a, s, e, hs, t, ht => by
    obtain ⟨P, hc⟩ := h.chain
    have hn : u.1 = s.2 := by rw [e] at hc; exact chain_next hc
    rcases List.mem_cons.1 ht with rfl | ht'
    · exact hs
    · refine SimpS.all_sides h b (a ++ [s]) u (by rw [e]; simp) ?_ t ht'
      have hsm : s ∈ l := by rw [e]; simp
      have hum : u ∈ l := by rw [e]; simp
      obtain ⟨k, hk, hk2⟩ := h.unit s hsm
      obtain ⟨i, hi, hi2⟩ := h.unit u hum
      obtain ⟨s1, s2⟩ := s
      obtain ⟨u1, u2⟩ := u
      simp only at hn hk2 hi2
      subst hn hi2
      have hb : s1 = toK u1 ((k + 4) % 8) := by rw [hk2, toK_back s1 k hk]
      have ht2 := (h.turn hi (j := (k + 4) % 8) (by omega) hum (by rw [← hb]; exact hsm)).1
      have hv := hs k hk hk2
      refine h.side hi hum ?_
      rw [ht2, show ((k + 4) % 8 + 7) % 8 = (k + 3) % 8 by omega]
      exact hv.2.2.1

/-- Two neighbours: the same, or the two sides of a step. -/
theorem SimpS.beside {l : List ((Int × Int) × (Int × Int))} (h : SimpS l) {c : Int} (hall : ∀ t ∈ l, SideC l c t) (v : Int × Int) (k : Nat) (hk : k < 8) :
    oK l v k = oK l v ((k + 7) % 8) ∨ (oK l v k = c ∧ oK l v ((k + 7) % 8) = c - 1) ∨ (oK l v k = c - 1 ∧ oK l v ((k + 7) % 8) = c) := by
  by_cases h1 : (v, toK v k) ∈ l
  · have := hall _ h1 k hk rfl
    exact .inr (.inl ⟨this.1, this.2.1⟩)
  by_cases h2 : (toK v k, v) ∈ l
  · have := hall _ h2 ((k + 4) % 8) (by omega) (toK_back v k hk).symm
    rw [show ((k + 4) % 8 + 3) % 8 = (k + 7) % 8 by omega, show ((k + 4) % 8 + 4) % 8 = k by omega] at this
    exact .inr (.inr ⟨this.2.2.2, this.2.2.1⟩)
  · have := jump_ring h.toRingS v k hk
    rw [ind_none h1, ind_none h2] at this
    exact .inl (by omega)

theorem far_right {l : List ((Int × Int) × (Int × Int))} {M : Int} (hM : ∀ s ∈ l, s.1.1 ≤ M ∧ s.2.1 ≤ M) (hu : ∀ s ∈ l, UnitS s) {x y : Int} (hx : 4 * M ≤ x) : wQ x y l = 0 := by
  refine sumQ_zero fun s hs => ?_
  obtain ⟨m1, m2⟩ := hM s hs
  obtain ⟨k, hk, hb⟩ := hu s hs
  obtain ⟨⟨ax, ay⟩, b⟩ := s
  simp only at hb m1 m2
  subst hb
  revert k
  refine eight ?_ ?_ ?_ ?_ ?_ ?_ ?_ ?_ <;> (intro hs m; simp [crQ, toK, dX, dY] at m ⊢; try omega)

/-- A count at a point is nothing, or that of a side of a step; if it is not nothing, one of the two sides counts nothing. -/
def FarC (c w : Int) : Prop := (w = 0 ∨ w = c ∨ w = c - 1) ∧ (w = 0 ∨ c = 0 ∨ c = 1)

theorem FarC.go {c a b : Int} (h : FarC c b) (hab : a = b ∨ (a = c ∧ b = c - 1) ∨ (a = c - 1 ∧ b = c)) : FarC c a := by unfold FarC at *; omega

theorem SimpS.far {l : List ((Int × Int) × (Int × Int))} (h : SimpS l) {c M : Int} (hall : ∀ t ∈ l, SideC l c t) (hM : ∀ s ∈ l, s.1.1 ≤ M ∧ s.2.1 ≤ M) : ∀ (n : Nat) (v : Int × Int), M - v.1 ≤ n → FarC c (oK l v 0)
  | 0, v, hv => by
    have : oK l v 0 = 0 := far_right hM h.unit (by simp [qX]; omega)
    exact ⟨.inl this, .inl this⟩
  | n + 1, v, hv => by
    have ih := SimpS.far h hall hM n (v.1 + 1, v.2) (by simp only; omega)
    have e : oK l v 0 = oK l (v.1 + 1, v.2) 3 := by simp [oK, qX, qY]; congr 1; omega
    rw [e]
    exact ((ih.go (h.beside hall _ 1 (by omega))).go (h.beside hall _ 2 (by omega))).go (h.beside hall _ 3 (by omega))

theorem SimpS.far_all {l : List ((Int × Int) × (Int × Int))} (h : SimpS l) {c M : Int} (hall : ∀ t ∈ l, SideC l c t) (hM : ∀ s ∈ l, s.1.1 ≤ M ∧ s.2.1 ≤ M) (v : Int × Int) : ∀ k, k < 8 → FarC c (oK l v k) := by
  have f0 := h.far hall hM (M - v.1).toNat v (by omega)
  have f1 := f0.go (h.beside hall v 1 (by omega))
  have f2 := f1.go (h.beside hall v 2 (by omega))
  have f3 := f2.go (h.beside hall v 3 (by omega))
  have f4 := f3.go (h.beside hall v 4 (by omega))
  have f5 := f4.go (h.beside hall v 5 (by omega))
  have f6 := f5.go (h.beside hall v 6 (by omega))
  have f7 := f6.go (h.beside hall v 7 (by omega))
  exact eight f0 f1 f2 f3 f4 f5 f6 f7

theorem bound_right : ∀ (l : List ((Int × Int) × (Int × Int))), ∃ M : Int, ∀ s ∈ l, s.1.1 ≤ M ∧ s.2.1 ≤ M
  | [] => ⟨0, by simp⟩
  | s :: l => by
    obtain ⟨M, h⟩ := bound_right l
    refine ⟨max M (max s.1.1 s.2.1), fun t ht => ?_⟩
    rcases List.mem_cons.1 ht with rfl | ht
    · omega
    · have := h t ht; omega

/-- What a ring that is simple goes around. -/
theorem SimpS.jordan {l : List ((Int × Int) × (Int × Int))} (h : SimpS l) (hne : l ≠ []) :
    ∃ c : Int, (c = 0 ∨ c = 1) ∧ (∀ t ∈ l, SideC l c t) ∧ ∀ v k, k < 8 → oK l v k = c ∨ oK l v k = c - 1 := by
  cases l with
  | nil => exact absurd rfl hne
  | cons s l =>
    obtain ⟨k, hk, hk2⟩ := h.unit s (by simp)
    have hm : (s.1, toK s.1 k) ∈ s :: l := by rw [← hk2]; simp
    obtain ⟨c, hc⟩ : ∃ c, oK (s :: l) s.1 k = c := ⟨_, rfl⟩
    have hs : SideC (s :: l) c s := by have := h.side hk hm hc; rw [← hk2] at this; exact this
    have hall := h.all_sides l [] s rfl hs
    obtain ⟨M, hM⟩ := bound_right (s :: l)
    have hf := h.far_all hall hM
    have h0 := hf s.1 k hk
    rw [hc] at h0
    have hc2 : c = 0 ∨ c = 1 := by unfold FarC at h0; omega
    refine ⟨c, hc2, hall, fun v i hi => ?_⟩
    have := hf v i hi
    unfold FarC at this
    omega
end Go.Proofs.Ytafanlbfbfbeoaa

/- Twice the area within a ring of steps is told by how often it goes around the points: a simple ring that keeps what it goes around to its left has a positive one, another one a negative one. -/
namespace Go.Proofs.Ytafanlbfbfbeoaa

/-- A step's share in twice the area. -/
def areaS (s : (Int × Int) × (Int × Int)) : Int := s.1.1 * s.2.2 - s.2.1 * s.1.2

def sumN : Nat → (Nat → Int) → Int
  | 0, _ => 0
  | n + 1, f => sumN n f + f n

theorem sumN_congr {f g : Nat → Int} : ∀ {n : Nat}, (∀ i, i < n → f i = g i) → sumN n f = sumN n g
  | 0, _ => rfl
  | n + 1, h => by rw [sumN, sumN, h n (by omega), sumN_congr fun i hi => h i (by omega)]

theorem sumN_add (f g : Nat → Int) : ∀ n, sumN n (fun i => f i + g i) = sumN n f + sumN n g
  | 0 => rfl
  | n + 1 => by simp only [sumN]; rw [sumN_add f g n]; omega

theorem sumN_mul (c : Int) (f : Nat → Int) : ∀ n, sumN n (fun i => c * f i) = c * sumN n f
  | 0 => by simp [sumN]
  | n + 1 => by simp only [sumN]; rw [sumN_mul c f n, Int.mul_add]

theorem sumN_zero {f : Nat → Int} : ∀ {n : Nat}, (∀ i, i < n → f i = 0) → sumN n f = 0
  | 0, _ => rfl
  | n + 1, h => by rw [sumN, h n (by omega), sumN_zero fun i hi => h i (by omega)]; rfl

theorem sumN_nonneg {f : Nat → Int} : ∀ {n : Nat}, (∀ i, i < n → 0 ≤ f i) → 0 ≤ sumN n f
  | 0, _ => Int.le_refl _
  | n + 1, h => by have h1 := h n (by omega); have h2 := sumN_nonneg fun i (hi : i < n) => h i (by omega); rw [sumN]; omega

theorem sumN_pos {f : Nat → Int} : ∀ {n : Nat} (j : Nat), (∀ i, i < n → 0 ≤ f i) → j < n → 0 < f j → 0 < sumN n f
  | 0, _, _, hj, _ => by omega
  | n + 1, j, h, hj, hp => by
    have h1 := h n (by omega)
    have h2 := sumN_nonneg fun i (hi : i < n) => h i (by omega)
    rw [sumN]
    by_cases e : j = n
    · subst e; omega
    · have := sumN_pos j (fun i (hi : i < n) => h i (by omega)) (by omega) hp; omega

/-- How many of the numbers from X on lie below c. -/
theorem sumN_lt (X c : Int) : ∀ (n : Nat), X ≤ c → sumN n (fun i => if X + i < c then 1 else 0) = min (n : Int) (c - X)
  | 0, h => by simp [sumN]; omega
  | n + 1, h => by
    rw [sumN, sumN_lt X c n h]
    split <;> omega

/-- The row of a step is met once. -/
theorem sumN_row (Y a v : Int) : ∀ (n : Nat), Y ≤ a → sumN n (fun j => if Y + j = a then v else 0) = if a < Y + n then v else 0
  | 0, h => by rw [sumN, if_neg (by omega)]
  | n + 1, h => by
    rw [sumN, sumN_row Y a v n h]
    split <;> split <;> split <;> omega

/-- The four parts of a square. -/
def triF (f : Int → Int → Int) (x y : Int) : Int := f (4 * x + 2) (4 * y + 1) + f (4 * x + 1) (4 * y + 2) + f (4 * x + 3) (4 * y + 2) + f (4 * x + 2) (4 * y + 3)

/-- What a step counts in a square. -/
theorem tri_step (X Y : Int) (s : (Int × Int) × (Int × Int)) (hs : UnitS s) :
    triF (fun x y => crQ x y s) X Y = if Y = min s.1.2 s.2.2 then (s.2.2 - s.1.2) * (2 * (if X < s.1.1 then 1 else 0) + 2 * (if X < s.2.1 then 1 else 0)) else 0 := by
  obtain ⟨k, hk, hb⟩ := hs
  obtain ⟨⟨ax, ay⟩, b⟩ := s
  simp only at hb
  subst hb
  have e : ∀ (p q : Int), crQ (4 * X + p) (4 * Y + q) ((ax, ay), toK (ax, ay) k) = crQ p q ((ax - X, ay - Y), toK (ax - X, ay - Y) k) := fun p q => by
    have h := crQ_shift X Y p q (ax - X) (ay - Y) (toK (ax - X, ay - Y) k).1 (toK (ax - X, ay - Y) k).2
    rw [← h]
    congr 2
    · simp; omega
    · simp [toK]; omega
  simp only [triF]
  rw [e, e, e, e]
  obtain ⟨a, ha⟩ : ∃ a, a = ax - X := ⟨_, rfl⟩
  obtain ⟨b, hb⟩ : ∃ b, b = ay - Y := ⟨_, rfl⟩
  rw [← ha, ← hb]
  clear e
  by_cases hr : b = 0 ∨ b = 1
  · revert hk
    revert k
    refine @(eight ?_ ?_ ?_ ?_ ?_ ?_ ?_ ?_)
    all_goals
      rcases hr with rfl | rfl
      all_goals
        simp [crQ, toK, dX, dY]
        try omega
  · have z : ∀ p q : Int, 0 < q → q < 4 → crQ p q ((a, b), toK (a, b) k) = 0 := fun p q h1 h2 => by
      have := dY_bd k hk
      apply crQ_none
      simp only [toK]
      omega
    rw [z 2 1 (by omega) (by omega), z 1 2 (by omega) (by omega), z 3 2 (by omega) (by omega), z 2 3 (by omega) (by omega), if_neg]
    · rfl
    · have := dY_bd k hk
      simp only [toK]
      omega

/-- .. and in all squares of a field. -/
def fieldF (X Y : Int) (n m : Nat) (f : Int → Int → Int) : Int := sumN m fun j => sumN n fun i => triF f (X + i) (Y + j)

theorem field_step {X Y : Int} {n m : Nat} {s : (Int × Int) × (Int × Int)} (hs : UnitS s) (h1 : X ≤ s.1.1 ∧ s.1.1 ≤ X + n ∧ Y ≤ s.1.2 ∧ s.1.2 ≤ Y + m) (h2 : X ≤ s.2.1 ∧ s.2.1 ≤ X + n ∧ Y ≤ s.2.2 ∧ s.2.2 ≤ Y + m) :
    fieldF X Y n m (fun x y => crQ x y s) = (s.2.2 - s.1.2) * (2 * (s.1.1 + s.2.1) - 4 * X) := by
  unfold fieldF
  have e : ∀ j : Nat, (sumN n fun i => triF (fun x y => crQ x y s) (X + i) (Y + j)) = if Y + j = min s.1.2 s.2.2 then (s.2.2 - s.1.2) * (2 * (s.1.1 + s.2.1) - 4 * X) else 0 := fun j => by
    by_cases hj : Y + (j : Int) = min s.1.2 s.2.2
    · rw [if_pos hj, sumN_congr (g := fun i : Nat => (s.2.2 - s.1.2) * (2 * (if X + i < s.1.1 then 1 else 0) + 2 * (if X + i < s.2.1 then 1 else 0))) fun i _ => by rw [tri_step _ _ s hs, if_pos hj],
        sumN_mul, sumN_add, sumN_mul, sumN_mul, sumN_lt X s.1.1 n h1.1, sumN_lt X s.2.1 n h2.1]
      congr 1
      omega
    · rw [if_neg hj]
      exact sumN_zero fun i _ => by rw [tri_step _ _ s hs, if_neg hj]
  rw [sumN_congr fun j _ => e j, sumN_row Y _ _ m (by omega)]
  by_cases hd : s.1.2 = s.2.2
  · rw [hd]; simp
  · rw [if_pos (by omega)]

theorem field_add (X Y : Int) (n m : Nat) (f g : Int → Int → Int) : fieldF X Y n m (fun x y => f x y + g x y) = fieldF X Y n m f + fieldF X Y n m g := by
  unfold fieldF
  rw [← sumN_add]
  refine sumN_congr fun j _ => ?_
  rw [← sumN_add]
  refine sumN_congr fun i _ => ?_
  simp only [triF]
  omega

theorem field_mul (X Y : Int) (n m : Nat) (c : Int) (f : Int → Int → Int) : fieldF X Y n m (fun x y => c * f x y) = c * fieldF X Y n m f := by
  unfold fieldF
  rw [← sumN_mul]
  refine sumN_congr fun j _ => ?_
  rw [← sumN_mul]
  refine sumN_congr fun i _ => ?_
  simp only [triF, Int.mul_add]

theorem field_zero (X Y : Int) (n m : Nat) : fieldF X Y n m (fun _ _ => 0) = 0 :=
  sumN_zero fun _ _ => sumN_zero fun _ _ => rfl

def InField (X Y : Int) (n m : Nat) (p : Int × Int) : Prop := X ≤ p.1 ∧ p.1 ≤ X + n ∧ Y ≤ p.2 ∧ p.2 ≤ Y + m

theorem field_sum {X Y : Int} {n m : Nat} : ∀ {l : List ((Int × Int) × (Int × Int))}, (∀ s ∈ l, UnitS s) → (∀ s ∈ l, InField X Y n m s.1 ∧ InField X Y n m s.2) →
    fieldF X Y n m (fun x y => wQ x y l) = sumQ (fun s => (s.2.2 - s.1.2) * (2 * (s.1.1 + s.2.1) - 4 * X)) l
  | [], _, _ => field_zero X Y n m
  | s :: l, hu, hf => by
    have h := hf s (by simp)
    rw [show (fun x y => wQ x y (s :: l)) = fun x y => crQ x y s + wQ x y l from rfl, field_add, field_step (hu s (by simp)) h.1 h.2, field_sum (fun t ht => hu t (by simp [ht])) (fun t ht => hf t (by simp [ht])), sumQ]

/-- Twice the area, twice. -/
theorem field_area {X Y : Int} {n m : Nat} {l : List ((Int × Int) × (Int × Int))} (h : RingS l) (hf : ∀ s ∈ l, InField X Y n m s.1 ∧ InField X Y n m s.2) :
    fieldF X Y n m (fun x y => wQ x y l) = 2 * sumQ areaS l := by
  obtain ⟨⟨P, hc⟩, hu⟩ := h
  rw [field_sum hu hf]
  have e1 := chain_sum (fun p => 2 * (p.1 * p.2) - 4 * X * p.2) hc
  have e2 : sumQ (fun s => (s.2.2 - s.1.2) * (2 * (s.1.1 + s.2.1) - 4 * X)) l = sumQ (fun s => (areaS s + areaS s) + ((2 * (s.2.1 * s.2.2) - 4 * X * s.2.2) - (2 * (s.1.1 * s.1.2) - 4 * X * s.1.2))) l := by
    refine sumQ_congr fun s _ => ?_
    unfold areaS
    grind
  rw [e2, sumQ_add, sumQ_add, e1]
  omega

/-- The points between the directions are the parts of the squares. -/
theorem oK_tri (l : List ((Int × Int) × (Int × Int))) (x y : Int) :
    triF (fun x y => wQ x y l) x y = oK l (x, y) 0 + oK l (x, y) 1 + oK l (x + 1, y) 2 + oK l (x, y + 1) 7 := by
  unfold triF oK
  simp only [qX, qY, List.getD_cons_zero, List.getD_cons_succ]
  rw [show 4 * (x + 1) + -1 = 4 * x + 3 by omega, show 4 * (y + 1) + -1 = 4 * y + 3 by omega]

theorem tri_mul (l : List ((Int × Int) × (Int × Int))) (e x y : Int) : triF (fun x y => e * wQ x y l) x y = e * triF (fun x y => wQ x y l) x y := by
  simp only [triF]
  rw [Int.mul_add, Int.mul_add, Int.mul_add]

/-- Each of the eight lies in a square beside the point. -/
theorem oK_square (l : List ((Int × Int) × (Int × Int))) (e : Int) (hall : ∀ v k, k < 8 → 0 ≤ e * oK l v k) (v : Int × Int) (k : Nat) (hk : k < 8) (hp : 0 < e * oK l v k) :
    ∃ x y, (x = v.1 ∨ x = v.1 - 1) ∧ (y = v.2 ∨ y = v.2 - 1) ∧ 0 < triF (fun x y => e * wQ x y l) x y := by
  obtain ⟨a, b⟩ := v
  have nn : ∀ x y, 0 ≤ e * oK l (x, y) 0 ∧ 0 ≤ e * oK l (x, y) 1 ∧ 0 ≤ e * oK l (x + 1, y) 2 ∧ 0 ≤ e * oK l (x, y + 1) 7 := fun x y => ⟨hall _ _ (by omega), hall _ _ (by omega), hall _ _ (by omega), hall _ _ (by omega)⟩
  have key : ∀ x y, (0 < e * oK l (x, y) 0 ∨ 0 < e * oK l (x, y) 1 ∨ 0 < e * oK l (x + 1, y) 2 ∨ 0 < e * oK l (x, y + 1) 7) → 0 < triF (fun x y => e * wQ x y l) x y := fun x y h => by
    have := nn x y
    rw [tri_mul, oK_tri, Int.mul_add, Int.mul_add, Int.mul_add]
    omega
  have c0 : ∀ x y k x' y' j, 4 * x + qX k = 4 * x' + qX j → 4 * y + qY k = 4 * y' + qY j → oK l (x, y) k = oK l (x', y') j := fun x y k x' y' j h1 h2 => by
    unfold oK; simp only; rw [h1, h2]
  revert hp
  revert hk
  revert k
  refine @(eight ?_ ?_ ?_ ?_ ?_ ?_ ?_ ?_)
  · exact fun hp => ⟨a, b, .inl rfl, .inl rfl, key a b (.inl hp)⟩
  · exact fun hp => ⟨a, b, .inl rfl, .inl rfl, key a b (.inr (.inl hp))⟩
  · intro hp
    refine ⟨a - 1, b, .inr rfl, .inl rfl, key _ _ (.inr (.inr (.inl ?_)))⟩
    rw [c0 (a - 1 + 1) b 2 a b 2 (by omega) rfl]; exact hp
  · intro hp
    refine ⟨a - 1, b, .inr rfl, .inl rfl, key _ _ (.inl ?_)⟩
    rw [c0 (a - 1) b 0 a b 3 (by simp [qX]; omega) rfl]; exact hp
  · intro hp
    refine ⟨a - 1, b - 1, .inr rfl, .inr rfl, key _ _ (.inr (.inr (.inr ?_)))⟩
    rw [c0 (a - 1) (b - 1 + 1) 7 a b 4 (by simp [qX]; try omega) (by simp [qY]; try omega)]; exact hp
  · intro hp
    refine ⟨a - 1, b - 1, .inr rfl, .inr rfl, key _ _ (.inr (.inr (.inl ?_)))⟩
    rw [c0 (a - 1 + 1) (b - 1) 2 a b 5 (by simp [qX]; try omega) (by simp [qY]; try omega)]; exact hp
  · intro hp
    refine ⟨a, b - 1, .inl rfl, .inr rfl, key _ _ (.inr (.inl ?_))⟩
    rw [c0 a (b - 1) 1 a b 6 (by simp [qX]) (by simp [qY]; omega)]; exact hp
  · intro hp
    refine ⟨a, b - 1, .inl rfl, .inr rfl, key _ _ (.inr (.inr (.inr ?_)))⟩
    rw [c0 a (b - 1 + 1) 7 a b 7 rfl (by omega)]; exact hp

theorem bound_all : ∀ (l : List ((Int × Int) × (Int × Int))), ∃ M : Nat, ∀ s ∈ l, (-(M : Int) ≤ s.1.1 ∧ s.1.1 ≤ M ∧ -(M : Int) ≤ s.1.2 ∧ s.1.2 ≤ M) ∧ (-(M : Int) ≤ s.2.1 ∧ s.2.1 ≤ M ∧ -(M : Int) ≤ s.2.2 ∧ s.2.2 ≤ M)
  | [] => ⟨0, by simp⟩
  | s :: l => by
    obtain ⟨M, h⟩ := bound_all l
    refine ⟨M + s.1.1.natAbs + s.1.2.natAbs + s.2.1.natAbs + s.2.2.natAbs, fun t ht => ?_⟩
    rcases List.mem_cons.1 ht with rfl | ht
    · omega
    · have := h t ht; omega

theorem area_sign {l : List ((Int × Int) × (Int × Int))} (h : RingS l) {e : Int} (hall : ∀ v k, k < 8 → 0 ≤ e * oK l v k) {s : (Int × Int) × (Int × Int)} (hs : s ∈ l) {k : Nat} (hk : k < 8) (hp : 0 < e * oK l s.1 k) : 0 < e * sumQ areaS l := by
  obtain ⟨M, hM⟩ := bound_all l
  have hf : ∀ t ∈ l, InField (-(M : Int) - 1) (-(M : Int) - 1) (2 * M + 3) (2 * M + 3) t.1 ∧ InField (-(M : Int) - 1) (-(M : Int) - 1) (2 * M + 3) (2 * M + 3) t.2 := fun t ht => by
    have := hM t ht
    unfold InField
    omega
  have ha := field_area h hf
  have hm := field_mul (-(M : Int) - 1) (-(M : Int) - 1) (2 * M + 3) (2 * M + 3) e (fun x y => wQ x y l)
  rw [ha] at hm
  obtain ⟨x, y, hx, hy, ht⟩ := oK_square l e hall s.1 k hk hp
  have hb := (hM s hs).1
  have nn : ∀ x y, 0 ≤ triF (fun x y => e * wQ x y l) x y := fun x y => by
    have h1 := hall (x, y) 0 (by omega)
    have h2 := hall (x, y) 1 (by omega)
    have h3 := hall (x + 1, y) 2 (by omega)
    have h4 := hall (x, y + 1) 7 (by omega)
    rw [tri_mul, oK_tri, Int.mul_add, Int.mul_add, Int.mul_add]
    omega
  have hpos : 0 < fieldF (-(M : Int) - 1) (-(M : Int) - 1) (2 * M + 3) (2 * M + 3) (fun x y => e * wQ x y l) := by
    refine sumN_pos (y + M + 1).toNat (fun j _ => sumN_nonneg fun i _ => nn _ _) (by omega) ?_
    refine sumN_pos (x + M + 1).toNat (fun i _ => nn _ _) (by omega) ?_
    rw [show -(M : Int) - 1 + ((x + M + 1).toNat : Int) = x by omega, show -(M : Int) - 1 + ((y + M + 1).toNat : Int) = y by omega]
    exact ht
  rw [hm] at hpos
  have e2 : e * (2 * sumQ areaS l) = 2 * (e * sumQ areaS l) := by rw [← Int.mul_assoc, ← Int.mul_assoc, Int.mul_comm e 2]
  omega

/-- The ring's area tells on which side of its steps it goes around what. -/
theorem SimpS.area {l : List ((Int × Int) × (Int × Int))} (h : SimpS l) (hne : l ≠ []) {c : Int} (hc : c = 0 ∨ c = 1) (hall : ∀ t ∈ l, SideC l c t) (hv : ∀ v k, k < 8 → oK l v k = c ∨ oK l v k = c - 1) :
    (c = 1 → 0 < sumQ areaS l) ∧ (c = 0 → sumQ areaS l < 0) := by
  cases l with
  | nil => exact absurd rfl hne
  | cons s l =>
    obtain ⟨k, hk, hk2⟩ := h.unit s (by simp)
    have hs := hall s (by simp) k hk hk2
    constructor
    · rintro rfl
      have := area_sign h.toRingS (e := 1) (fun v k hk => by have := hv v k hk; omega) (s := s) (by simp) hk (by omega)
      omega
    · rintro rfl
      have := area_sign h.toRingS (e := -1) (fun v k hk => by have := hv v k hk; omega) (s := s) (by simp) (k := (k + 7) % 8) (by omega) (by omega)
      omega
end Go.Proofs.Ytafanlbfbfbeoaa

/- What the laws of smartclip lean on: a ring's points, its steps. -/
namespace Go.Proofs.Ytafanlbfbfbeoaa
open Go.RowKit

theorem ring_octi {ps : List (Int × Int)} (h : RingOk ps) : OctiL (ps.headD (0, 0)) ps := by
  have ho := h.octi
  have hc := h.closed
  cases ps with
  | nil => trivial
  | cons p ps => exact ⟨octi_self _, ho.2⟩

theorem closedL_len (ws : List (Int × Int)) : (closedL ws).length ≤ ws.length + 3 := by
  unfold closedL backOne backY backX
  (repeat' split) <;> simp <;> omega

theorem seg_get {P Q : Int × Int} {k : Nat} (h : k < (segS P Q).length) : (segS P Q)[k] = (ptK P (dirK P Q) (k : Int), ptK P (dirK P Q) ((k : Int) + 1)) := by
  have e : (segS P Q)[k]? = some (ptK P (dirK P Q) (k : Int), ptK P (dirK P Q) ((k : Int) + 1)) := by
    rw [seg_len] at h
    unfold segS
    rw [List.getElem?_map, List.getElem?_range h]
    rfl
  rw [List.getElem?_eq_getElem h] at e
  exact Option.some.inj e

theorem seg_self (P : Int × Int) : segS P P = [] := by
  unfold segS lenK
  simp

theorem dir_back (P Q : Int × Int) : dirK Q P = (-(dirK P Q).1, -(dirK P Q).2) := by
  unfold dirK sgn
  ext <;> simp only <;> omega

theorem len_back (P Q : Int × Int) : lenK Q P = lenK P Q := by unfold lenK; omega

/-- Out and back the same way is not simple. -/
theorem simple_four {ps : List (Int × Int)} (hc : ps.head? = ps.getLast?) (ho : OctiL (ps.headD (0, 0)) ps) (h : SimpleB (stepsL ps)) : 4 ≤ ps.length := by
  obtain ⟨h3, _, hap, _⟩ := h
  match ps, hc, ho, h3, hap with
  | [], _, _, h3, _ => simp [stepsL] at h3
  | [a], _, _, h3, _ => simp [stepsL, stepsR] at h3
  | [a, b], hc, _, h3, _ =>
    simp at hc
    subst hc
    simp [stepsL, stepsR, seg_self] at h3
  | [a, b, c], hc, ho, h3, hap =>
    exfalso
    simp at hc
    subst hc
    have e : stepsL [a, b, a] = segS a b ++ segS b a := by simp [stepsL, stepsR]
    rw [e] at h3
    have hl1 := seg_len a b
    have hl2 := seg_len b a
    rw [len_back a b] at hl2
    rw [List.length_append, hl1, hl2] at h3
    have hn := len_nonneg a b
    have hk := hap (2 * (lenK a b).toNat - 1) 0 (by rw [e, List.length_append, hl1, hl2]; omega) (by omega)
    have g0 : (stepsL [a, b, a])[0]'(by rw [e, List.length_append, hl1, hl2]; omega) = (ptK a (dirK a b) ((0 : Nat) : Int), ptK a (dirK a b) (((0 : Nat) : Int) + 1)) := by
      simp only [e]
      rw [List.getElem_append_left (by omega), seg_get]
    have g1 : (stepsL [a, b, a])[2 * (lenK a b).toNat - 1]'(by rw [e, List.length_append, hl1, hl2]; omega) = (ptK b (dirK b a) (((lenK a b).toNat - 1 : Nat) : Int), ptK b (dirK b a) ((((lenK a b).toNat - 1 : Nat) : Int) + 1)) := by
      simp only [e]
      rw [List.getElem_append_right (by omega), seg_get]
      simp only [hl1]
      rw [show 2 * (lenK a b).toNat - 1 - (lenK a b).toNat = (lenK a b).toNat - 1 by omega]
    rw [g0, g1, dir_back a b] at hk
    have hb := pt_len ho.2.1
    have hd := dir_ok a b
    obtain ⟨n, hn'⟩ : ∃ n : Nat, lenK a b = n := ⟨(lenK a b).toNat, by omega⟩
    rw [hn'] at hk hb h3
    generalize dirK a b = d at *
    apply hk.2
    unfold ptK at hb ⊢
    have b1 := congrArg Prod.fst hb
    have b2 := congrArg Prod.snd hb
    simp only [Int.toNat_natCast] at b1 b2 h3 ⊢
    rw [← b1, ← b2]
    have e1 : ((n - 1 : Nat) : Int) = (n : Int) - 1 := by omega
    rw [e1]
    obtain ⟨d1, d2⟩ := d
    simp only
    constructor <;> grind
  | a :: b :: c :: d :: l, _, _, _, _ => simp

/-- A ring that lies within the box, and off its sides. -/
theorem line_inside {lx ly hx hy : Int} {ps : List (Int × Int)} (h2 : 2 ≤ ps.length) (ho : OctiL (ps.headD (0, 0)) ps) (hin : ∀ p ∈ ps, hasB lx ly hx hy p.1 p.2 = true) (hoff : ∀ p ∈ ps, OffB lx ly hx hy p) : lineL true lx ly hx hy ps = [ps] := by
  have hcode : ∀ p ∈ ps, codeX true lx ly hx hy p.1 p.2 = 0 := fun p hp => by
    have h1 := hasB_iff.1 (hin p hp)
    have h2 := hoff p hp
    unfold OffB at h2
    unfold codeX acode
    simp only [if_true]
    (repeat' split) <;> omega
  cases ps with
  | nil => simp at h2
  | cons P l =>
    have hl : l ≠ [] := fun e => by subst e; simp at h2
    exact line_in l P [] [] (.inl ⟨rfl, rfl⟩) hl ho.2 (hcode P (by simp)) fun Q hQ => hcode Q (by simp [hQ])

theorem ring_last {ps : List (Int × Int)} (hc : ps.head? = ps.getLast?) (h : 0 < ps.length) : ps[ps.length - 1] = ps[0] := by
  rw [List.head?_eq_getElem?, List.getLast?_eq_getElem?, List.getElem?_eq_getElem h, List.getElem?_eq_getElem (by omega)] at hc
  simpa using hc.symm
end Go.Proofs.Ytafanlbfbfbeoaa

/- The rows of a line whose corners are off the sides of the box: where each begins and ends. -/
namespace Go.Proofs.Ytafanlbfbfbeoaa

/-- Within the box, off its sides. -/
def Ins (lx ly hx hy : Int) (p : Int × Int) : Prop := (lx < p.1 ∧ p.1 < hx) ∧ ly < p.2 ∧ p.2 < hy
/-- On a side of the box. -/
def OnX (lx ly hx hy : Int) (p : Int × Int) : Prop := (p.1 = lx ∨ p.1 = hx ∨ p.2 = ly ∨ p.2 = hy) ∧ (lx ≤ p.1 ∧ p.1 ≤ hx) ∧ ly ≤ p.2 ∧ p.2 ≤ hy

section
variable {lx ly hx hy : Int}

theorem code_ins (_h1 : lx < hx) (_h2 : ly < hy) (p : Int × Int) : codeX true lx ly hx hy p.1 p.2 = 0 ↔ Ins lx ly hx hy p := by
  rw [codeX_zero]
  unfold acode Ins
  simp only [if_true]
  constructor
  · rintro ⟨e1, e2⟩
    (repeat' split at e1) <;> (repeat' split at e2) <;> omega
  · rintro ⟨e1, e2⟩
    constructor <;> (repeat' split) <;> first | rfl | omega

theorem ins_not_on {p : Int × Int} (h : Ins lx ly hx hy p) : ¬ OnX lx ly hx hy p := by
  unfold Ins at h; unfold OnX; omega

/-- What is left of a line between two points, by the numbers of its steps. -/
theorem segP_idx (h1 : lx < hx) (h2 : ly < hy) {P Q : Int × Int} (hPQ : Octi P Q) :
    (segP true lx ly hx hy P Q = none → ¬ Ins lx ly hx hy P ∧ ¬ Ins lx ly hx hy Q) ∧
    ∀ A C, segP true lx ly hx hy P Q = some (A, C) → ∃ s t, (0 ≤ s ∧ s ≤ t ∧ t ≤ lenK P Q) ∧ A = ptK P (dirK P Q) s ∧ C = ptK P (dirK P Q) t ∧ hasB lx ly hx hy A.1 A.2 = true ∧ hasB lx ly hx hy C.1 C.2 = true ∧ (Ins lx ly hx hy P → s = 0) ∧ (Ins lx ly hx hy Q → t = lenK P Q) ∧
      ∀ k, 0 ≤ k → k < lenK P Q → keepB true lx ly hx hy (ptK P (dirK P Q) k) (ptK P (dirK P Q) (k + 1)) = decide (s ≤ k ∧ k < t) := by
  have hend := pt_len hPQ
  have hp0 := pt_zero P (dirK P Q)
  have hd := dir_ok P Q
  have hm := seg_main (o := true) (P := P) (N := lenK P Q) h1 h2 hd ((lenK P Q).toNat + 3) true true 0 (lenK P Q) (inv_start (len_nonneg P Q)) (by simp <;> omega)
  rw [hp0, hend] at hm
  obtain ⟨m1, m2⟩ := hm
  have zP := (codeX_zero true lx ly hx hy P.1 P.2)
  have zQ := (codeX_zero true lx ly hx hy Q.1 Q.2)
  have iP := code_ins h1 h2 P
  have iQ := code_ins h1 h2 Q
  unfold segP
  constructor
  · intro h
    rw [Option.map_eq_none_iff] at h
    obtain ⟨q1, q2, q3⟩ := m1 h
    exact ⟨fun e => q1 (zP.1 (iP.2 e)), fun e => q2 (zQ.1 (iQ.2 e))⟩
  · intro A C h
    obtain ⟨⟨s, t⟩, hst, e⟩ := Option.map_eq_some_iff.1 h
    cases e
    obtain ⟨⟨q1, q2, q3⟩, q4, q5, q6, q7, q8⟩ := m2 s t hst
    exact ⟨s, t, ⟨q1, q2, q3⟩, rfl, rfl, q4, q5, fun e => q6 (zP.1 (iP.2 e)), fun e => q7 (zQ.1 (iQ.2 e)), fun k k0 kN => q8 k k0 kN⟩

/-- A line that begins and ends off the sides runs along none. -/
theorem off_dir {P Q : Int × Int} (hP : OffB lx ly hx hy P) : Off lx ly hx hy P (dirK P Q) := by
  unfold OffB at hP
  unfold Off
  exact ⟨fun _ => ⟨fun e => hP (.inl e), fun e => hP (.inr (.inl e))⟩, fun _ => ⟨fun e => hP (.inr (.inr (.inl e))), fun e => hP (.inr (.inr (.inr e)))⟩⟩

theorem keep_iff {P d : Int × Int} (hoff : Off lx ly hx hy P d) (k : Int) : keepB true lx ly hx hy (ptK P d k) (ptK P d (k + 1)) = true ↔ hasB lx ly hx hy (ptK P d k).1 (ptK P d k).2 = true ∧ hasB lx ly hx hy (ptK P d (k + 1)).1 (ptK P d (k + 1)).2 = true := by
  unfold keepB
  rw [off_along hoff]
  simp

theorem seg_ends (h1 : lx < hx) (h2 : ly < hy) {P Q A C : Int × Int} (hPQ : Octi P Q) (hP : OffB lx ly hx hy P) (hQ : OffB lx ly hx hy Q) (hc : ∀ s ∈ segS P Q, OffC lx ly hx hy s) (hs : segP true lx ly hx hy P Q = some (A, C)) :
    ((Ins lx ly hx hy P ∧ A = P) ∨ (¬ Ins lx ly hx hy P ∧ OnX lx ly hx hy A)) ∧ ((Ins lx ly hx hy Q ∧ C = Q) ∨ (¬ Ins lx ly hx hy Q ∧ OnX lx ly hx hy C)) ∧ (¬ Ins lx ly hx hy P ∨ ¬ Ins lx ly hx hy Q → segS A C ≠ []) := by
  obtain ⟨s, t, ⟨q1, q2, q3⟩, rfl, rfl, bA, bC, eP, eQ, hk⟩ := (segP_idx h1 h2 hPQ).2 A C hs
  have hd := dir_ok P Q
  have hoff := off_dir (Q := Q) hP
  have hend := pt_len hPQ
  have hp0 := pt_zero P (dirK P Q)
  have nP : ¬ Ins lx ly hx hy P → hasB lx ly hx hy P.1 P.2 = false := fun h => by
    rw [Bool.eq_false_iff]; intro e; rw [hasB_iff] at e; unfold OffB at hP; unfold Ins at h; omega
  have nQ : ¬ Ins lx ly hx hy Q → hasB lx ly hx hy Q.1 Q.2 = false := fun h => by
    rw [Bool.eq_false_iff]; intro e; rw [hasB_iff] at e; unfold OffB at hQ; unfold Ins at h; omega
  have hs0 : ¬ Ins lx ly hx hy P → 0 < s := fun h => by
    rcases Int.lt_or_eq_of_le q1 with e | e
    · exact e
    · rw [← e, hp0, nP h] at bA; cases bA
  have htN : ¬ Ins lx ly hx hy Q → t < lenK P Q := fun h => by
    rcases Int.lt_or_eq_of_le q3 with e | e
    · exact e
    · rw [e, hend, nQ h] at bC; cases bC
  have corner : ∀ k, 0 ≤ k → k < lenK P Q → ¬ (((ptK P (dirK P Q) k).1 = lx ∨ (ptK P (dirK P Q) k).1 = hx) ∧ ((ptK P (dirK P Q) k).2 = ly ∨ (ptK P (dirK P Q) k).2 = hy)) := fun k k0 kN => by
    have hm : (ptK P (dirK P Q) k, ptK P (dirK P Q) (k + 1)) ∈ segS P Q := by
      unfold segS
      exact List.mem_map.2 ⟨k.toNat, List.mem_range.2 (by omega), by rw [show ((k.toNat : Nat) : Int) = k by omega]⟩
    exact hc _ hm
  have hseg := seg_sub (P := P) (Q := Q) q1 q2 q3
  clear hs hc
  generalize dirK P Q = d at *
  have near : ∀ k, ((ptK P d (k + 1)).1 = (ptK P d k).1 + d.1 ∧ (ptK P d (k + 1)).2 = (ptK P d k).2 + d.2) := fun k => by
    unfold ptK; simp only [Int.add_mul]; omega
  have kA : 0 < s → OnX lx ly hx hy (ptK P d s) := fun h => by
    have h3 := hk (s - 1) (by omega) (by omega)
    have h4 : decide (s ≤ s - 1 ∧ s - 1 < t) = false := decide_eq_false (by omega)
    rw [h4, Bool.eq_false_iff, ne_eq, keep_iff hoff, show s - 1 + 1 = s by omega] at h3
    have h5 : ¬ hasB lx ly hx hy (ptK P d (s - 1)).1 (ptK P d (s - 1)).2 = true := fun e => h3 ⟨e, bA⟩
    have h6 := near (s - 1)
    rw [show s - 1 + 1 = s by omega] at h6
    rw [hasB_iff] at bA h5
    unfold OnX
    have d1 := hd.1
    have d2 := hd.2
    omega
  have kC : t < lenK P Q → OnX lx ly hx hy (ptK P d t) := fun h => by
    have h3 := hk t (by omega) (by omega)
    have h4 : decide (s ≤ t ∧ t < t) = false := decide_eq_false (by omega)
    rw [h4, Bool.eq_false_iff, ne_eq, keep_iff hoff] at h3
    have h5 : ¬ hasB lx ly hx hy (ptK P d (t + 1)).1 (ptK P d (t + 1)).2 = true := fun e => h3 ⟨bC, e⟩
    have h6 := near t
    rw [hasB_iff] at bC h5
    unfold OnX
    have d1 := hd.1
    have d2 := hd.2
    omega
  refine ⟨?_, ?_, fun hor => ?_⟩
  · by_cases h : Ins lx ly hx hy P
    · exact .inl ⟨h, by rw [eP h, hp0]⟩
    · exact .inr ⟨h, kA (hs0 h)⟩
  · by_cases h : Ins lx ly hx hy Q
    · exact .inl ⟨h, by rw [eQ h, hend]⟩
    · exact .inr ⟨h, kC (htN h)⟩
  · have hlt : s < t := by
      rcases Int.lt_or_eq_of_le q2 with e | e
      · exact e
      · exfalso
        subst e
        have hs1 : 0 < s ∨ Ins lx ly hx hy P := by
          by_cases h : Ins lx ly hx hy P
          · exact .inr h
          · exact .inl (hs0 h)
        have ht1 : s < lenK P Q ∨ Ins lx ly hx hy Q := by
          by_cases h : Ins lx ly hx hy Q
          · exact .inr h
          · exact .inl (htN h)
        have hnl : s < lenK P Q := by
          rcases ht1 with h | h
          · exact h
          · rcases hor with h' | h'
            · have hon := kA (hs0 h')
              rw [eQ h, hend] at hon
              exact absurd hon (ins_not_on h)
            · exact absurd h h'
        have h3 := hk s q1 hnl
        have h4 : decide (s ≤ s ∧ s < s) = false := decide_eq_false (by omega)
        rw [h4, Bool.eq_false_iff, ne_eq, keep_iff hoff] at h3
        have h5 : ¬ hasB lx ly hx hy (ptK P d (s + 1)).1 (ptK P d (s + 1)).2 = true := fun e => h3 ⟨bA, e⟩
        have h6 := near s
        have h7 := corner s q1 hnl
        have d1 := hd.1
        have d2 := hd.2
        rcases hs1 with h | h
        · have h8 := hk (s - 1) (by omega) (by omega)
          have h9 : decide (s ≤ s - 1 ∧ s - 1 < s) = false := decide_eq_false (by omega)
          rw [h9, Bool.eq_false_iff, ne_eq, keep_iff hoff, show s - 1 + 1 = s by omega] at h8
          have h10 : ¬ hasB lx ly hx hy (ptK P d (s - 1)).1 (ptK P d (s - 1)).2 = true := fun e => h8 ⟨e, bA⟩
          have h11 := near (s - 1)
          rw [show s - 1 + 1 = s by omega] at h11
          have ho1 := hoff.1
          have ho2 := hoff.2
          have z1 : d.1 = 0 → (ptK P d s).1 = P.1 := fun e => by unfold ptK; simp [e]
          have z2 : d.2 = 0 → (ptK P d s).2 = P.2 := fun e => by unfold ptK; simp [e]
          rw [hasB_iff] at h5 h10 bA
          have on := kA h
          unfold OnX at on
          rcases d1 with e1 | e1 | e1 <;> rcases d2 with e2 | e2 | e2 <;> simp only [e1, e2] at * <;> simp at * <;> omega
        · have hz := eP h
          subst hz
          rw [hp0] at *
          unfold Ins at h
          rw [hasB_iff] at h5
          omega
    intro e
    rw [hseg] at e
    have := congrArg List.length e
    simp at this
    omega

/-- How a row begins. -/
def HeadR (lx ly hx hy : Int) (P0 : Int × Int) (j : Nat) (r : List (Int × Int)) : Prop := (j = 0 ∧ Ins lx ly hx hy P0 ∧ r.head! = P0) ∨ ((j = 0 → ¬ Ins lx ly hx hy P0) ∧ OnX lx ly hx hy r.head!)
/-- A row that has come to its end. -/
def DoneR (lx ly hx hy : Int) (P0 : Int × Int) (n j : Nat) (r : List (Int × Int)) : Prop := HeadR lx ly hx hy P0 j r ∧ (2 ≤ r.length ∧ r.length ≤ 2 * n) ∧ OnX lx ly hx hy r.getLast! ∧ stepsL r ≠ []

/-- Between two lines; before are the points ahead of P. -/
structure RSt (lx ly hx hy : Int) (P0 P : Int × Int) (pre : List (Int × Int)) (rows : List (List (Int × Int))) (line : Nat) : Prop where
  len : rows.length ≤ pre.length
  first : pre = [] → P = P0
  none' : rows = [] → pre = [] ∨ ¬ Ins lx ly hx hy P0
  case : (line = rows.length ∧ (∀ j (h : j < rows.length), DoneR lx ly hx hy P0 pre.length j rows[j]) ∧ (Ins lx ly hx hy P → pre = [] ∧ rows = [])) ∨
    ∃ rs r, rows = rs ++ [r] ∧ line = rs.length ∧ (∀ j (h : j < rs.length), DoneR lx ly hx hy P0 pre.length j rs[j]) ∧ r ≠ [] ∧ r.length ≤ 2 * pre.length ∧ HeadR lx ly hx hy P0 rs.length r ∧ Ins lx ly hx hy P ∧ (rs = [] → Ins lx ly hx hy P0 → ∀ p ∈ pre, Ins lx ly hx hy p)

/-- At the end of a line. -/
structure RFin (lx ly hx hy : Int) (P0 Z : Int × Int) (ps : List (Int × Int)) (rows : List (List (Int × Int))) : Prop where
  len : rows.length ≤ ps.length
  none' : rows = [] → ¬ Ins lx ly hx hy P0 ∧ ¬ Ins lx ly hx hy Z
  row : ∀ j (h : j < rows.length), HeadR lx ly hx hy P0 j rows[j] ∧ (2 ≤ rows[j].length ∧ rows[j].length ≤ 2 * ps.length) ∧
    ((OnX lx ly hx hy rows[j].getLast! ∧ stepsL rows[j] ≠ [] ∧ (j + 1 = rows.length → ¬ Ins lx ly hx hy Z)) ∨ (j + 1 = rows.length ∧ Ins lx ly hx hy Z ∧ rows[j].getLast! = Z ∧ (j = 0 → Ins lx ly hx hy P0 → ∀ p ∈ ps, Ins lx ly hx hy p)))

theorem DoneR.more {P0 : Int × Int} {n m j : Nat} {r : List (Int × Int)} (h : DoneR lx ly hx hy P0 n j r) (hn : n ≤ m) : DoneR lx ly hx hy P0 m j r := ⟨h.1, ⟨h.2.1.1, by have := h.2.1.2; omega⟩, h.2.2⟩

theorem last_snoc (l : List (Int × Int)) (a : Int × Int) : (l ++ [a]).getLast! = a := by
  rw [List.getLast!_eq_getLast?_getD]; simp
theorem head_snoc (l : List (Int × Int)) (a : Int × Int) (h : l ≠ []) : (l ++ [a]).head! = l.head! := by
  cases l with
  | nil => exact absurd rfl h
  | cons p l => rfl

/-- A point is pushed. -/
theorem rst_push (_h1 : lx < hx) (_h2 : ly < hy) {P0 P A : Int × Int} {pre : List (Int × Int)} {rows : List (List (Int × Int))} {line : Nat} (h : RSt lx ly hx hy P0 P pre rows line) (hA : (Ins lx ly hx hy P ∧ A = P) ∨ (¬ Ins lx ly hx hy P ∧ OnX lx ly hx hy A)) :
    ∃ rs r, pushL rows line A = rs ++ [r ++ [A]] ∧ line = rs.length ∧ rs.length ≤ pre.length ∧ (∀ j (h : j < rs.length), DoneR lx ly hx hy P0 pre.length j rs[j]) ∧ r.length ≤ 2 * pre.length ∧ HeadR lx ly hx hy P0 rs.length (r ++ [A]) ∧ (rs = [] → Ins lx ly hx hy P0 → ∀ p ∈ pre ++ [P], Ins lx ly hx hy p) ∧ (rs.length + 1 ≤ pre.length + 1) := by
  rcases h.case with ⟨hl, hd, hi⟩ | ⟨rs, r, rfl, rfl, hd, hr, hrl, hh, hi, hall⟩
  · subst hl
    refine ⟨rows, [], push_new rows A, rfl, h.len, hd, by simp, ?_, fun e hP p hp => ?_, by have := h.len; omega⟩
    · rcases hA with ⟨q1, rfl⟩ | ⟨q1, q2⟩
      · obtain ⟨e1, e2⟩ := hi q1
        have := h.first e1
        subst this
        exact .inl ⟨by rw [e2]; rfl, q1, rfl⟩
      · refine .inr ⟨fun e => ?_, q2⟩
        rcases h.none' (List.eq_nil_of_length_eq_zero e) with e1 | e1
        · have := h.first e1
          subst this
          exact q1
        · exact e1
    · rcases h.none' e with e1 | e1
      · have := h.first e1
        subst this
        subst e1
        rw [List.nil_append, List.mem_singleton] at hp
        subst hp
        exact hP
      · exact absurd hP e1
  · have hlen := h.len
    rw [List.length_append] at hlen
    simp only [List.length_singleton] at hlen
    refine ⟨rs, r, push_old rs r A, rfl, by omega, hd, hrl, ?_, fun e hP p hp => ?_, by omega⟩
    · unfold HeadR at hh ⊢
      rw [head_snoc r A hr]
      exact hh
    · rcases List.mem_append.1 hp with h' | h'
      · exact hall e hP p h'
      · rw [List.mem_singleton.1 h']
        exact hi

theorem rows_spec (h1 : lx < hx) (h2 : ly < hy) (P0 : Int × Int) : ∀ (l : List (Int × Int)) (P : Int × Int) (pre : List (Int × Int)) (rows : List (List (Int × Int))) (line : Nat), RSt lx ly hx hy P0 P pre rows line → l ≠ [] → OctiL P l → (∀ p ∈ P :: l, OffB lx ly hx hy p) → (∀ s ∈ stepsR P l, OffC lx ly hx hy s) →
    RFin lx ly hx hy P0 (lastOr P l) (pre ++ P :: l) (lineR true lx ly hx hy l P (rows, line)).1
  | [], _, _, _, _, _, h, _, _, _ => absurd rfl h
  | Q :: l, P, pre, rows, line, hst, _, ho, hoff, hc => by
    have hP := hoff P (by simp)
    have hQ := hoff Q (by simp)
    have hcs : ∀ s ∈ segS P Q, OffC lx ly hx hy s := fun s hs => hc s (by rw [stepsR]; exact List.mem_append_left _ hs)
    have hcr : ∀ s ∈ stepsR Q l, OffC lx ly hx hy s := fun s hs => hc s (by rw [stepsR]; exact List.mem_append_right _ hs)
    have hlast : lastOr P (Q :: l) = lastOr Q l := by unfold lastOr; cases l with
      | nil => rfl
      | cons a l => rw [List.getLast?_cons_cons, List.getLast?_eq_some_getLast (List.cons_ne_nil a l)]; rfl
    have hpre : pre ++ P :: Q :: l = (pre ++ [P]) ++ Q :: l := by simp
    have hlp : (pre ++ [P]).length = pre.length + 1 := by simp
    have hoff2 : ∀ p ∈ Q :: l, OffB lx ly hx hy p := fun p hp => hoff p (List.mem_cons_of_mem _ hp)
    rw [lineR, hlast, hpre]
    cases hseg : segP true lx ly hx hy P Q with
    | none =>
      obtain ⟨nP, nQ⟩ := (segP_idx h1 h2 ho.1).1 hseg
      have e : stepR true lx ly hx hy l.isEmpty (rows, line) P Q = (rows, line) := by unfold stepR; rw [hseg]
      rw [e]
      rcases hst.case with ⟨hl, hd, hi⟩ | ⟨rs, r, _, _, _, _, _, _, hi, _⟩
      · have hn0 : rows = [] → ¬ Ins lx ly hx hy P0 := fun e => by
          rcases hst.none' e with e1 | e1
          · have := hst.first e1; subst this; exact nP
          · exact e1
        by_cases hl0 : l = []
        · subst hl0
          rw [lineR]
          refine ⟨by have := hst.len; simp; omega, fun e => ⟨hn0 e, nQ⟩, fun j hj => ?_⟩
          obtain ⟨d1, d2, d3, d4⟩ := hd j hj
          exact ⟨d1, ⟨d2.1, by have := d2.2; simp; omega⟩, .inl ⟨d3, d4, fun _ => nQ⟩⟩
        · exact rows_spec h1 h2 P0 l Q (pre ++ [P]) rows line ⟨by rw [hlp]; have := hst.len; omega, fun e => by simp at e, fun e => .inr (hn0 e), .inl ⟨hl, fun j hj => (hd j hj).more (by rw [hlp]; omega), fun e => absurd e nQ⟩⟩ hl0 ho.2 hoff2 hcr
      · exact absurd hi nP
    | some AC =>
      obtain ⟨A, C⟩ := AC
      obtain ⟨eA, eC, ne⟩ := seg_ends h1 h2 ho.1 hP hQ hcs hseg
      obtain ⟨rs, r, hp, rfl, hrl, hd, hr2, hh, hall, hrl2⟩ := rst_push h1 h2 hst eA
      have hpC : pushL (pushL rows rs.length A) rs.length C = rs ++ [r ++ [A] ++ [C]] := by rw [hp]; exact push_old rs (r ++ [A]) C
      have hhC : HeadR lx ly hx hy P0 rs.length (r ++ [A] ++ [C]) := by
        unfold HeadR at hh ⊢
        rw [head_snoc (r ++ [A]) C (by simp)]
        exact hh
      have hlenC : 2 ≤ (r ++ [A] ++ [C]).length ∧ (r ++ [A] ++ [C]).length ≤ 2 * (pre.length + 1) := by simp; omega
      have hrow : ∀ (x : List (Int × Int)) (j : Nat) (h : j < (rs ++ [x]).length), (j < rs.length ∧ ∃ h', (rs ++ [x])[j] = rs[j]'h') ∨ (j = rs.length ∧ (rs ++ [x])[j] = x) := fun x j hj => by
        rw [List.length_append, List.length_singleton] at hj
        rcases Nat.lt_or_ge j rs.length with h | h
        · exact .inl ⟨h, h, List.getElem_append_left h⟩
        · have : j = rs.length := by omega
          subst this
          exact .inr ⟨rfl, by simp⟩
      by_cases hz : Ins lx ly hx hy Q
      · have hz0 := (code_ins h1 h2 Q).2 hz
        have eC : C = Q := by
          rcases eC with ⟨_, e⟩ | ⟨e, _⟩
          · exact e
          · exact absurd hz e
        subst eC
        by_cases hl : l = []
        · subst hl
          have e : stepR true lx ly hx hy ([] : List (Int × Int)).isEmpty (rows, rs.length) P C = (rs ++ [r ++ [A] ++ [C]], rs.length) := by
            unfold stepR; rw [hseg]; simp only [hz0, if_true, List.isEmpty_nil, hpC]
          rw [e, lineR]
          refine ⟨by simp; omega, fun e => by simp at e, fun j hj => ?_⟩
          rcases hrow _ j hj with ⟨hj1, h', e⟩ | ⟨hj1, e⟩
          · rw [e]
            obtain ⟨d1, d2, d3, d4⟩ := hd j h'
            exact ⟨d1, ⟨d2.1, by have := d2.2; simp; omega⟩, .inl ⟨d3, d4, fun e => by simp at e; omega⟩⟩
          · rw [e]
            subst hj1
            refine ⟨hhC, ⟨hlenC.1, by have := hlenC.2; simp at this ⊢; omega⟩, .inr ⟨by simp, hz, last_snoc _ _, fun e0 hP0 p hp => ?_⟩⟩
            rcases List.mem_append.1 hp with h' | h'
            · exact hall (List.eq_nil_of_length_eq_zero e0) hP0 p h'
            · rw [List.mem_singleton.1 h']; exact hz
        · have e : stepR true lx ly hx hy l.isEmpty (rows, rs.length) P C = (rs ++ [r ++ [A]], rs.length) := by
            have hle : l.isEmpty = false := by cases l <;> simp at hl ⊢
            unfold stepR; rw [hseg]; simp only [hz0, if_true, hle, Bool.false_eq_true, if_false, hp]
          rw [e]
          exact rows_spec h1 h2 P0 l C (pre ++ [P]) _ _ ⟨by simp; omega, fun e => by simp at e, fun e => by simp at e, .inr ⟨rs, r ++ [A], rfl, rfl, fun j hj => (hd j hj).more (by rw [hlp]; omega), by simp, by simp; omega, hh, hz, hall⟩⟩ hl ho.2 hoff2 hcr
      · have hz0 : ¬ codeX true lx ly hx hy Q.1 Q.2 = 0 := fun e => hz ((code_ins h1 h2 Q).1 e)
        have eC : OnX lx ly hx hy C := by
          rcases eC with ⟨e, _⟩ | ⟨_, e⟩
          · exact absurd e hz
          · exact e
        have hsn : stepsL (r ++ [A] ++ [C]) ≠ [] := by
          have e : stepsL (r ++ [A] ++ [C]) = stepsL (r ++ [A]) ++ segS A C := by rw [List.append_assoc]; exact stepsL_snoc r A C
          rw [e]
          intro e'
          exact ne (.inr hz) (List.append_eq_nil_iff.1 e').2
        have hdC : ∀ j (h : j < (rs ++ [r ++ [A] ++ [C]]).length), DoneR lx ly hx hy P0 (pre ++ [P]).length j (rs ++ [r ++ [A] ++ [C]])[j] := fun j hj => by
          rcases hrow _ j hj with ⟨hj1, h', e⟩ | ⟨hj1, e⟩
          · rw [e]; exact (hd j h').more (by rw [hlp]; omega)
          · rw [e]; subst hj1
            exact ⟨hhC, by rw [hlp]; exact hlenC, by rw [last_snoc]; exact eC, hsn⟩
        by_cases hl : l = []
        · subst hl
          have e : stepR true lx ly hx hy ([] : List (Int × Int)).isEmpty (rows, rs.length) P Q = (rs ++ [r ++ [A] ++ [C]], rs.length) := by
            unfold stepR; rw [hseg]; simp only [hz0, if_true, if_false, List.isEmpty_nil, hpC]
          rw [e, lineR]
          refine ⟨by simp; omega, fun e => by simp at e, fun j hj => ?_⟩
          obtain ⟨d1, d2, d3, d4⟩ := hdC j hj
          exact ⟨d1, ⟨d2.1, by have := d2.2; simp at this ⊢; omega⟩, .inl ⟨d3, d4, fun _ => hz⟩⟩
        · have e : stepR true lx ly hx hy l.isEmpty (rows, rs.length) P Q = (rs ++ [r ++ [A] ++ [C]], rs.length + 1) := by
            have hle : l.isEmpty = false := by cases l <;> simp at hl ⊢
            unfold stepR; rw [hseg]; simp only [hz0, hle, Bool.false_eq_true, if_false, hpC]
          rw [e]
          exact rows_spec h1 h2 P0 l Q (pre ++ [P]) _ _ ⟨by simp; omega, fun e => by simp at e, fun e => by simp at e, .inl ⟨by simp, hdC, fun e => absurd e hz⟩⟩ hl ho.2 hoff2 hcr

/-- The rows of a line. -/
theorem line_rows (h1 : lx < hx) (h2 : ly < hy) {P0 : Int × Int} {l : List (Int × Int)} (hl : l ≠ []) (ho : OctiL P0 l) (hoff : ∀ p ∈ P0 :: l, OffB lx ly hx hy p) (hc : ∀ s ∈ stepsR P0 l, OffC lx ly hx hy s) :
    RFin lx ly hx hy P0 (lastOr P0 l) (P0 :: l) (lineL true lx ly hx hy (P0 :: l)) :=
  rows_spec h1 h2 P0 l P0 [] [] 0 ⟨Nat.le_refl _, fun _ => rfl, fun _ => .inl rfl, .inl ⟨rfl, fun j hj => by simp at hj, fun _ => ⟨rfl, rfl⟩⟩⟩ hl ho hoff hc
end
end Go.Proofs.Ytafanlbfbfbeoaa
