/- What the proofs over smartclip lean on, part 40 of 48. -/
import Derived.Test.YtafanlbfbfbeoaaM38
import Derived.Test.YtafanlbfbfbeoaaM30
import Derived.Test.YtafanlbfbfbeoaaM29
import Derived.Test.YtafanlbfbfbeoaaM31
import Derived.Test.YtafanlbfbfbeoaaM02

/- Endpoints that are sorted along the boundary: what follows on each. -/
namespace Go.Proofs.Ytafanlbfbfbeoaa

theorem mate_mate' (e : Nat) : mateE (mateE e) = e := by unfold mateE; (repeat' split) <;> omega
theorem mate_lt' {m e : Nat} (h : e < 2 * m) : mateE e < 2 * m := by unfold mateE; split <;> omega

/-- The row that follows on a row. -/
def nxO (m : Nat) (d : Array Nat) (oe : Nat → Nat) (i : Nat) : Nat := d[(oe (2 * i) + 1) % (2 * m)]! / 2

/-- The places, as they are gone along. -/
def gO (o P f : Int) : Int := if o = 1 then f else P - 1 - f

/-- The length of the piece behind a row. -/
def lenO (o P : Int) (m : Nat) (d : Array Nat) (oe : Nat → Nat) (f : Nat → Int) (i : Nat) : Nat :=
  if oe (2 * i) + 1 < 2 * m then (gO o P (f d[oe (2 * i) + 1]!) - gO o P (f d[oe (2 * i)]!)).toNat else (gO o P (f d[0]!) + P - gO o P (f d[oe (2 * i)]!)).toNat

section
variable {x0 y0 w h : Int} {R : List ((Int × Int) × (Int × Int))} {m : Nat} {S : Nat → List ((Int × Int) × (Int × Int))} {A B : Nat → Int × Int}

theorem order_ok (C : CutRows x0 y0 w h R m S A B) (hm : 0 < m) {o : Int} (ho : o = 1 ∨ o = -1) {d : Array Nat} {oe : Nat → Nat} (hsz : d.size = 2 * m) (hid : ∀ k, k < 2 * m → d[k]! < 2 * m) (hinj : ∀ i j, i < 2 * m → j < 2 * m → d[i]! = d[j]! → i = j)
    (hmate : ∀ e, e < 2 * m → oe e < 2 * m ∧ d[oe e]! = mateE e) (hs : ∀ i j, i < j → j < 2 * m → o * posB x0 y0 w h (endA A B d[i]!) < o * posB x0 y0 w h (endA A B d[j]!)) :
    OrdOk m d oe (nxO m d oe) ∧ ArcsOk x0 y0 w h m A B o (nxO m d oe) (lenO o (2 * (w + h)) m d oe fun e => posB x0 y0 w h (endA A B e)) := by
  obtain ⟨hw, hh⟩ := C.wide
  obtain ⟨P, hP⟩ : ∃ P, P = 2 * (w + h) := ⟨_, rfl⟩
  obtain ⟨f, hf⟩ : ∃ f : Nat → Int, f = fun e => posB x0 y0 w h (endA A B e) := ⟨_, rfl⟩
  have hfb : ∀ e, e < 2 * m → 0 ≤ f e ∧ f e < P ∧ bpt x0 y0 w h (f e) = endA A B e := fun e he => by rw [hf, hP]; exact posB_at hw hh (C.end_on he)
  have hg : ∀ i j, i < j → j < 2 * m → gO o P (f d[i]!) < gO o P (f d[j]!) := fun i j hij hj => by
    have := hs i j hij hj
    simp only [hf]
    unfold gO
    rcases ho with rfl | rfl
    · rw [if_pos rfl, if_pos rfl]; omega
    · rw [if_neg (by decide), if_neg (by decide)]; omega
  have hgb : ∀ e, e < 2 * m → 0 ≤ gO o P (f e) ∧ gO o P (f e) < P := fun e he => by
    have := hfb e he
    unfold gO
    split <;> omega
  have surj : ∀ e, e < 2 * m → ∃ k, k < 2 * m ∧ d[k]! = e := fun e he => by
    obtain ⟨h1, h2⟩ := hmate _ (mate_lt' he)
    exact ⟨_, h1, h2.trans (mate_mate' e)⟩
  have hodd : ∀ i, i < m → oe (2 * i) < 2 * m ∧ d[oe (2 * i)]! = 2 * i + 1 := fun i hi => by
    obtain ⟨h1, h2⟩ := hmate (2 * i) (by omega)
    exact ⟨h1, by rw [h2]; unfold mateE; rw [if_pos (by omega)]⟩
  have hmod : ∀ k, k < 2 * m → (k + 1) % (2 * m) = if k + 1 < 2 * m then k + 1 else 0 := fun k hk => by
    split
    · exact Nat.mod_eq_of_lt ‹_›
    · rw [show k + 1 = 2 * m by omega, Nat.mod_self]
  -- the piece
  have hlen : ∀ i, i < m → 0 < lenO o P m d oe f i ∧ gO o P (f d[oe (2 * i)]!) + (lenO o P m d oe f i : Int) = gO o P (f d[(oe (2 * i) + 1) % (2 * m)]!) + (if oe (2 * i) + 1 < 2 * m then 0 else P) := fun i hi => by
    obtain ⟨h1, h2⟩ := hodd i hi
    rw [hmod _ h1]
    unfold lenO
    split
    · rename_i hlt
      have := hg (oe (2 * i)) (oe (2 * i) + 1) (by omega) hlt
      omega
    · have a1 := hgb _ (hid 0 (by omega))
      have a2 := hgb _ (hid _ h1)
      omega
  have hpl : ∀ i, i < m → bpt x0 y0 w h (posB x0 y0 w h (B i)) = B i := fun i hi => C.placeB hi
  have hfB : ∀ i, i < m → f d[oe (2 * i)]! = posB x0 y0 w h (B i) := fun i hi => by
    rw [(hodd i hi).2, hf]
    simp only
    unfold endA
    rw [if_neg (by omega), show (2 * i + 1) / 2 = i by omega]
  have hgo : ∀ a b : Int, ∃ z : Int, gO o P a - gO o P b = o * (a - b) := fun a b => ⟨0, by
    unfold gO
    rcases ho with rfl | rfl
    · rw [if_pos rfl, if_pos rfl]; omega
    · rw [if_neg (by decide), if_neg (by decide)]; omega⟩
  have hper : ∀ (t : Int) (z : Int), (z = 0 ∨ z = 1 ∨ z = -1) → bpt x0 y0 w h (t + z * P) = bpt x0 y0 w h t := fun t z hz => by
    unfold bpt
    rw [← hP]
    congr 1
    rcases hz with rfl | rfl | rfl
    · simp
    · rw [Int.one_mul, Int.add_emod_right]
    · rw [Int.neg_mul, Int.one_mul, ← Int.sub_eq_add_neg, Int.sub_emod_right]
  have hat : ∀ i, i < m → bpt x0 y0 w h (posB x0 y0 w h (B i) + o * (lenO o P m d oe f i : Int)) = endA A B d[(oe (2 * i) + 1) % (2 * m)]! := fun i hi => by
    obtain ⟨h1, h2⟩ := hlen i hi
    have hk2 : (oe (2 * i) + 1) % (2 * m) < 2 * m := Nat.mod_lt _ (by omega)
    obtain ⟨z, hz⟩ := hgo (f d[(oe (2 * i) + 1) % (2 * m)]!) (f d[oe (2 * i)]!)
    rw [hfB i hi] at h2 hz
    rw [← (hfb _ (hid _ hk2)).2.2]
    rcases ho with rfl | rfl
    · split at h2
      · rw [show posB x0 y0 w h (B i) + 1 * (lenO 1 P m d oe f i : Int) = f d[(oe (2 * i) + 1) % (2 * m)]! by omega]
      · rw [show posB x0 y0 w h (B i) + 1 * (lenO 1 P m d oe f i : Int) = f d[(oe (2 * i) + 1) % (2 * m)]! + 1 * P by omega]
        exact hper _ 1 (by omega)
    · split at h2
      · rw [show posB x0 y0 w h (B i) + -1 * (lenO (-1) P m d oe f i : Int) = f d[(oe (2 * i) + 1) % (2 * m)]! by omega]
      · rw [show posB x0 y0 w h (B i) + -1 * (lenO (-1) P m d oe f i : Int) = f d[(oe (2 * i) + 1) % (2 * m)]! + -1 * P by omega]
        exact hper _ (-1) (by omega)
  have hno : ∀ i, i < m → ∀ j : Nat, 0 < j → j < lenO o P m d oe f i → ∀ e, e < 2 * m → endA A B e ≠ bpt x0 y0 w h (posB x0 y0 w h (B i) + o * j) := fun i hi j hj0 hj e he hq => by
    obtain ⟨k, hk, hke⟩ := surj e he
    obtain ⟨h1, h2⟩ := hlen i hi
    obtain ⟨k0, -⟩ := hodd i hi
    rw [← (hfb e he).2.2] at hq
    have hm1 := bpt_inj hw hh hq
    rw [← hP] at hm1
    have e1 := hfb e he
    rw [Int.emod_eq_of_lt e1.1 e1.2.1] at hm1
    have e2 := hfb _ (hid _ k0)
    rw [hfB i hi] at e2 h2
    have hdvd := Int.emod_add_mul_ediv (posB x0 y0 w h (B i) + o * j) P
    generalize hqq : (posB x0 y0 w h (B i) + o * j) / P = q at hdvd
    rw [← hm1] at hdvd
    have hjP : (j : Int) < (lenO o P m d oe f i : Int) := by omega
    have gk : gO o P (f d[k]!) = gO o P (f e) := by rw [hke]
    have gB := hgb _ (hid _ k0)
    rw [hfB i hi] at gB
    have gE := hgb e he
    have key : gO o P (f e) = gO o P (posB x0 y0 w h (B i)) + j ∨ gO o P (f e) = gO o P (posB x0 y0 w h (B i)) + j - P := by
      have hlP : (lenO o P m d oe f i : Int) ≤ P + P := by
        have := hgb _ (hid _ (Nat.mod_lt (oe (2 * i) + 1) (show 0 < 2 * m by omega)))
        split at h2 <;> omega
      have hlP2 : gO o P (posB x0 y0 w h (B i)) + (lenO o P m d oe f i : Int) < P + P := by
        have := hgb _ (hid _ (Nat.mod_lt (oe (2 * i) + 1) (show 0 < 2 * m by omega)))
        split at h2 <;> omega
      have hPp : 0 < P := by omega
      unfold gO at gE gB hlP2 ⊢
      rcases ho with rfl | rfl
      · rw [if_pos rfl] at gE gB hlP2 ⊢
        rw [if_pos rfl]
        have q1 : q < 2 := by
          rcases Int.lt_or_le q 2 with h | h
          · exact h
          · have := Int.mul_le_mul_of_nonneg_left h (Int.le_of_lt hPp); omega
        have q0 : -1 < q := by
          rcases Int.lt_or_le (-1) q with h | h
          · exact h
          · have := Int.mul_le_mul_of_nonneg_left h (Int.le_of_lt hPp); omega
        have : q = 0 ∨ q = 1 := by omega
        rcases this with rfl | rfl <;> omega
      · rw [if_neg (by decide)] at gE gB hlP2 ⊢
        rw [if_neg (by decide)]
        have q1 : q < 1 := by
          rcases Int.lt_or_le q 1 with h | h
          · exact h
          · have := Int.mul_le_mul_of_nonneg_left h (Int.le_of_lt hPp); omega
        have q0 : -2 < q := by
          rcases Int.lt_or_le (-2) q with h | h
          · exact h
          · have := Int.mul_le_mul_of_nonneg_left h (Int.le_of_lt hPp); omega
        have : q = 0 ∨ q = -1 := by omega
        rcases this with rfl | rfl <;> omega
    rw [hmod _ k0] at h2
    have gB0 : gO o P (f d[oe (2 * i)]!) = gO o P (posB x0 y0 w h (B i)) := by rw [hfB i hi]
    by_cases hlt : oe (2 * i) + 1 < 2 * m
    · rw [if_pos hlt, if_pos hlt] at h2
      have g1 := hgb _ (hid _ hlt)
      have key : gO o P (f e) = gO o P (posB x0 y0 w h (B i)) + j := by omega
      rcases Nat.lt_trichotomy k (oe (2 * i)) with hk' | hk' | hk'
      · have := hg _ _ hk' k0; omega
      · subst hk'; omega
      · rcases Nat.lt_or_ge k (oe (2 * i) + 1) with h3 | h3
        · omega
        · rcases Nat.lt_or_ge (oe (2 * i) + 1) k with h4 | h4
          · have := hg _ _ h4 hk; omega
          · have : k = oe (2 * i) + 1 := by omega
            subst this; omega
    · rw [if_neg hlt, if_neg hlt] at h2
      have hk1 : k ≤ oe (2 * i) := by omega
      rcases key with key | key
      · rcases Nat.lt_or_ge k (oe (2 * i)) with h3 | h3
        · have := hg _ _ h3 k0; omega
        · have : k = oe (2 * i) := by omega
          subst this; omega
      · rcases Nat.eq_zero_or_pos k with h3 | h3
        · subst h3; omega
        · have := hg _ _ h3 hk; omega
  obtain ⟨c, -, -, hcc⟩ := C.two_counts hm
  have hev : ∀ i, i < m → d[(oe (2 * i) + 1) % (2 * m)]! = 2 * nxO m d oe i := fun i hi => by
    have hk2 : (oe (2 * i) + 1) % (2 * m) < 2 * m := Nat.mod_lt _ (by omega)
    have he := hid _ hk2
    have hq := hat i hi
    have hl := (hlen i hi).1
    have hpar : d[(oe (2 * i) + 1) % (2 * m)]! % 2 = 0 := by
      rcases ho with rfl | rfl
      · refine C.next_left hcc hi (hpl i hi) hl (fun j h0 h1 e he' hq' => hno i hi j h0 h1 e he' ?_) he ?_
        · rw [hq', Int.one_mul]
        · rw [← hq, Int.one_mul]
      · refine C.next_right hcc hi (hpl i hi) hl (fun j h0 h1 e he' hq' => hno i hi j h0 h1 e he' ?_) he ?_
        · rw [hq', Int.neg_mul, Int.one_mul, ← Int.sub_eq_add_neg]
        · rw [← hq, Int.neg_mul, Int.one_mul, ← Int.sub_eq_add_neg]
    unfold nxO
    omega
  have hnl : ∀ i, i < m → nxO m d oe i < m := fun i hi => by
    have := hid _ (Nat.mod_lt (oe (2 * i) + 1) (show 0 < 2 * m by omega))
    rw [hev i hi] at this
    omega
  rw [← hP, ← hf]
  refine ⟨⟨hsz, hid, hmate, fun k hk hodk => ?_, hnl, fun i j hi hj e => ?_⟩, ⟨ho, hnl, fun i hi => (hlen i hi).1, fun i hi => ?_, hno⟩⟩
  · obtain ⟨i, hi⟩ : ∃ i, d[k]! = 2 * i + 1 := ⟨d[k]! / 2, by omega⟩
    have him : i < m := by have := hid k hk; omega
    rw [show d[k]! / 2 = i by omega]
    have : k = oe (2 * i) := hinj _ _ hk (hodd i him).1 (by rw [hi, (hodd i him).2])
    rw [this]
    exact hev i him
  · have e2 : d[(oe (2 * i) + 1) % (2 * m)]! = d[(oe (2 * j) + 1) % (2 * m)]! := by rw [hev i hi, hev j hj, e]
    have e3 := hinj _ _ (Nat.mod_lt _ (by omega)) (Nat.mod_lt _ (by omega)) e2
    have o1 := hodd i hi
    have o2 := hodd j hj
    rw [hmod _ o1.1, hmod _ o2.1] at e3
    have e4 : oe (2 * i) = oe (2 * j) := by split at e3 <;> split at e3 <;> omega
    rw [e4, o2.2] at o1
    omega
  · rw [hat i hi, hev i hi]
    unfold endA
    rw [if_pos (by omega), show 2 * nxO m d oe i / 2 = nxO m d oe i by omega]
end
end Go.Proofs.Ytafanlbfbfbeoaa

/- What the rows of a ring in a box are to smartWrap. -/
namespace Go.Proofs.Ytafanlbfbfbeoaa

theorem pos_far (E E' : EPt) (h : E.side < E'.side) (h1 : Sm E.x ∧ Sm E.y) (h2 : Sm E'.x ∧ Sm E'.y) : E.pos < E'.pos := by
  unfold EPt.pos
  have hu : ∀ E : EPt, Sm E.x ∧ Sm E.y → -1000000 ≤ (if E.side = 1 then - E.y else if E.side = 2 then E.x else if E.side = 3 then E.y else - E.x) ∧ (if E.side = 1 then - E.y else if E.side = 2 then E.x else if E.side = 3 then E.y else - E.x) ≤ 1000000 := fun E h => by
    unfold Sm at h
    (repeat' split) <;> omega
  have u1 := hu E h1
  have u2 := hu E' h2
  generalize (if E.side = 1 then - E.y else if E.side = 2 then E.x else if E.side = 3 then E.y else - E.x) = u at *
  generalize (if E'.side = 1 then - E'.y else if E'.side = 2 then E'.x else if E'.side = 3 then E'.y else - E'.x) = u' at *
  omega

section
variable {lx ly hx hy : Int}

/-- A point of a side, but no corner: its side, and its place. -/
def SideAt (lx ly hx hy : Int) (p : Int × Int) (s : Nat) (q : Int) : Prop :=
  (s = 1 ∧ p.1 = lx ∧ (ly < p.2 ∧ p.2 < hy) ∧ q = 2 * (hy - p.2)) ∨ (s = 2 ∧ p.2 = ly ∧ (lx < p.1 ∧ p.1 < hx) ∧ q = 2 * (hy - ly) + 2 * (p.1 - lx)) ∨
  (s = 3 ∧ p.1 = hx ∧ (ly < p.2 ∧ p.2 < hy) ∧ q = 2 * (hy - ly) + 2 * (hx - lx) + 2 * (p.2 - ly)) ∨ (s = 4 ∧ p.2 = hy ∧ (lx < p.1 ∧ p.1 < hx) ∧ q = 4 * (hy - ly) + 2 * (hx - lx) + 2 * (hx - p.1))

theorem side_at (h1 : lx < hx) (h2 : ly < hy) {p : Int × Int} (h : OnX lx ly hx hy p) (hc : ¬ CornB (2 * lx) (2 * ly) (2 * (hx - lx)) (2 * (hy - ly)) (dblP p)) :
    SideAt lx ly hx hy p (sideI lx ly hx hy p.1 p.2).toNat (posB (2 * lx) (2 * ly) (2 * (hx - lx)) (2 * (hy - ly)) (dblP p)) ∧ sideI lx ly hx hy p.1 p.2 = ((sideI lx ly hx hy p.1 p.2).toNat : Int) ∧ codeS lx ly hx hy p.1 p.2 = midC (sideI lx ly hx hy p.1 p.2).toNat := by
  obtain ⟨x, y⟩ := p
  unfold OnX at h
  unfold CornB dblP at hc
  simp only at h hc
  by_cases c1 : x = lx
  · have e : sideI lx ly hx hy x y = 1 := by unfold sideI; rw [if_neg (by omega), if_neg (by omega), if_neg (by omega), if_pos c1]
    have e2 : posB (2 * lx) (2 * ly) (2 * (hx - lx)) (2 * (hy - ly)) (dblP (x, y)) = 2 * (hy - y) := by unfold posB dblP; simp only; rw [if_pos (by omega)]; omega
    have e3 : codeS lx ly hx hy x y = 1 := by unfold codeS; rw [if_pos (by omega), if_neg (by omega), if_neg (by omega)]; rfl
    simp only [e, e2, e3]
    exact ⟨.inl ⟨rfl, c1, by simp only; omega, rfl⟩, rfl, rfl⟩
  by_cases c2 : y = ly
  · have e : sideI lx ly hx hy x y = 2 := by unfold sideI; rw [if_neg (by omega), if_pos c2]
    have e2 : posB (2 * lx) (2 * ly) (2 * (hx - lx)) (2 * (hy - ly)) (dblP (x, y)) = 2 * (hy - ly) + 2 * (x - lx) := by unfold posB dblP; simp only; rw [if_neg (by omega), if_pos (by omega)]; omega
    have e3 : codeS lx ly hx hy x y = 4 := by unfold codeS; rw [if_neg (by omega), if_neg (by omega), if_pos (by omega)]; rfl
    simp only [e, e2, e3]
    exact ⟨.inr (.inl ⟨rfl, c2, by simp only; omega, rfl⟩), rfl, rfl⟩
  by_cases c3 : x = hx
  · have e : sideI lx ly hx hy x y = 3 := by unfold sideI; rw [if_neg (by omega), if_neg (by omega), if_pos c3]
    have e2 : posB (2 * lx) (2 * ly) (2 * (hx - lx)) (2 * (hy - ly)) (dblP (x, y)) = 2 * (hy - ly) + 2 * (hx - lx) + 2 * (y - ly) := by unfold posB dblP; simp only; rw [if_neg (by omega), if_neg (by omega), if_pos (by omega)]; omega
    have e3 : codeS lx ly hx hy x y = 2 := by unfold codeS; rw [if_neg (by omega), if_pos (by omega), if_neg (by omega), if_neg (by omega)]; rfl
    simp only [e, e2, e3]
    exact ⟨.inr (.inr (.inl ⟨rfl, c3, by simp only; omega, rfl⟩)), rfl, rfl⟩
  · have c4 : y = hy := by omega
    have e : sideI lx ly hx hy x y = 4 := by unfold sideI; rw [if_pos c4]
    have e2 : posB (2 * lx) (2 * ly) (2 * (hx - lx)) (2 * (hy - ly)) (dblP (x, y)) = 4 * (hy - ly) + 2 * (hx - lx) + 2 * (hx - x) := by unfold posB dblP; simp only; rw [if_neg (by omega), if_neg (by omega), if_neg (by omega)]; omega
    have e3 : codeS lx ly hx hy x y = 8 := by unfold codeS; rw [if_neg (by omega), if_neg (by omega), if_neg (by omega), if_pos (by omega)]; rfl
    simp only [e, e2, e3]
    exact ⟨.inr (.inr (.inr ⟨rfl, c4, by simp only; omega, rfl⟩)), rfl, rfl⟩

theorem SideAt.bd {p : Int × Int} {s : Nat} {q : Int} (h : SideAt lx ly hx hy p s q) : 1 ≤ s ∧ s ≤ 4 := by
  unfold SideAt at h; omega

theorem side_lt (h1 : lx < hx) (h2 : ly < hy) {p p' : Int × Int} {s s' : Nat} {q q' : Int} (hp : Sm p.1 ∧ Sm p.2) (hp' : Sm p'.1 ∧ Sm p'.2) (h : SideAt lx ly hx hy p s q) (h' : SideAt lx ly hx hy p' s' q') (st st' : Bool) (i i' : Nat) :
    EPt.pos ⟨p.1, p.2, st, s, i⟩ < EPt.pos ⟨p'.1, p'.2, st', s', i'⟩ ↔ q < q' := by
  by_cases hs : s = s'
  · subst hs
    rcases h with ⟨rfl, a1, a2, a3⟩ | ⟨rfl, a1, a2, a3⟩ | ⟨rfl, a1, a2, a3⟩ | ⟨rfl, a1, a2, a3⟩
    · rw [pos_lt1]
      unfold SideAt at h'
      omega
    · rw [pos_lt2]
      unfold SideAt at h'
      omega
    · rw [pos_lt3]
      unfold SideAt at h'
      omega
    · rw [pos_lt4]
      unfold SideAt at h'
      omega
  · have hq : s < s' ↔ q < q' := by
      unfold SideAt at h h'
      rcases h with ⟨rfl, a1, a2, a3⟩ | ⟨rfl, a1, a2, a3⟩ | ⟨rfl, a1, a2, a3⟩ | ⟨rfl, a1, a2, a3⟩ <;> rcases h' with ⟨rfl, b1, b2, b3⟩ | ⟨rfl, b1, b2, b3⟩ | ⟨rfl, b1, b2, b3⟩ | ⟨rfl, b1, b2, b3⟩ <;> omega
    rw [← hq]
    rcases Nat.lt_or_gt_of_ne hs with hl | hl
    · exact ⟨fun _ => hl, fun _ => pos_far _ _ hl hp hp'⟩
    · refine ⟨fun e => ?_, fun e => by omega⟩
      have := pos_far (⟨p'.1, p'.2, st', s', i'⟩ : EPt) ⟨p.1, p.2, st, s, i⟩ hl hp' hp
      omega
end

/-- What a ring is in a box, of which it has rows. -/
structure RingRows (lx ly hx hy : Int) (P0 : Int × Int) (l : List (Int × Int)) (rows : List (List (Int × Int))) (jn : Bool) (J : List (List (Int × Int))) : Prop where
  ok : RowsOk lx ly hx hy rows jn
  eq : J = if jn then joinL rows else rows
  wrap : WrapOk lx ly hx hy J
  cut : CutRows (2 * lx) (2 * ly) (2 * (hx - lx)) (2 * (hy - ly)) (dblS (stepsR P0 l)) J.length (fun i => dblS (stepsL J[i]!)) (fun i => dblP (J[i]!.head!)) (fun i => dblP (J[i]!.getLast!))
  row : ∀ r ∈ J, JRow lx ly hx hy 400 r
  at_ : ∀ e, e < 2 * J.length → ∃ p : Int × Int, endE lx ly hx hy J e = ⟨p.1, p.2, decide (e % 2 = 0), (sideI lx ly hx hy p.1 p.2).toNat, e / 2⟩ ∧ dblP p = endA (fun i => dblP (J[i]!.head!)) (fun i => dblP (J[i]!.getLast!)) e ∧ (Sm p.1 ∧ Sm p.2) ∧
    SideAt lx ly hx hy p (sideI lx ly hx hy p.1 p.2).toNat (posB (2 * lx) (2 * ly) (2 * (hx - lx)) (2 * (hy - ly)) (dblP p))

theorem head_mem {r : List (Int × Int)} (h : r ≠ []) : r.head! ∈ r := by
  cases r with
  | nil => exact absurd rfl h
  | cons p l => exact List.mem_cons_self
theorem last_mem {r : List (Int × Int)} (h : r ≠ []) : r.getLast! ∈ r := by
  rw [List.getLast!_eq_getLast?_getD, List.getLast?_eq_some_getLast h]
  exact List.getLast_mem h

theorem onX_S {lx ly hx hy : Int} {p : Int × Int} (h : OnX lx ly hx hy p) : OnS (2 * lx) (2 * ly) (2 * (hx - lx)) (2 * (hy - ly)) (dblP p) := by
  unfold OnX at h
  unfold OnS InB dblP
  simp only
  omega

theorem ring_rows {lx ly hx hy : Int} (hl : Near (lx, ly)) (hh : Near (hx, hy)) (h1 : lx < hx) (h2 : ly < hy) {P0 : Int × Int} {l : List (Int × Int)} (hl0 : l ≠ []) (hcl : lastOr P0 l = P0) (ho : OctiL P0 l) (hS : SimpS (stepsR P0 l)) (hoff : ∀ p ∈ P0 :: l, OffB lx ly hx hy p)
    (hc : ∀ s ∈ stepsR P0 l, OffC lx ly hx hy s) (hlen : (P0 :: l).length ≤ 100) (hne : lineL true lx ly hx hy (P0 :: l) ≠ []) (hout : ∃ p ∈ P0 :: l, ¬ Ins lx ly hx hy p) : ∃ jn J, RingRows lx ly hx hy P0 l (lineL true lx ly hx hy (P0 :: l)) jn J := by
  have hfin := line_rows h1 h2 hl0 ho hoff hc
  rw [hcl] at hfin
  obtain ⟨hst, hok⟩ := line_spec (o := true) h1 h2 (ps := P0 :: l) ⟨octi_self _, ho⟩
  generalize lineL true lx ly hx hy (P0 :: l) = rows at *
  obtain ⟨jn, hjn⟩ : ∃ jn : Bool, jn = true ↔ Ins lx ly hx hy P0 := by
    by_cases h : Ins lx ly hx hy P0
    · exact ⟨true, by simp [h]⟩
    · exact ⟨false, by simp [h]⟩
  have K := rows_j hfin hok hne hout jn hjn
  obtain ⟨J, hJ⟩ : ∃ J, J = if jn then joinJ rows else rows := ⟨_, rfl⟩
  have hJ2 : J = if jn then joinL rows else rows := hJ
  have hrow := K.row
  have hperm := K.perm
  have hfew := K.few
  have hpos := K.pos
  rw [← hJ] at hrow hperm hfew hpos
  have h4 : 4 * (P0 :: l).length ≤ 400 := by omega
  have hrow4 : ∀ r ∈ J, JRow lx ly hx hy 400 r := fun r hr => by
    have := hrow r hr
    exact ⟨⟨this.len.1, Nat.le_trans this.len.2 h4⟩, this.hd, this.lst, this.ne, this.inb, this.oct⟩
  have hget : ∀ i, i < J.length → J[i]! ∈ J := fun i hi => by rw [getElem!_pos J i hi]; exact List.getElem_mem hi
  have hrne : ∀ r ∈ J, r ≠ [] := fun r hr e => by have := (hrow r hr).len; rw [e] at this; simp at this
  have cut : CutRows (2 * lx) (2 * ly) (2 * (hx - lx)) (2 * (hy - ly)) (dblS (stepsR P0 l)) J.length (fun i => dblS (stepsL J[i]!)) (fun i => dblP (J[i]!.head!)) (fun i => dblP (J[i]!.getLast!)) := by
    refine ⟨ring_cut h1 h2 ho hS hoff hc, ?_, fun i hi => dblS_chain (row_chain (hrne _ (hget i hi)) (hrow _ (hget i hi)).oct), fun i hi e => ?_, fun i hi => onX_S (hrow _ (hget i hi)).hd, fun i hi => onX_S (hrow _ (hget i hi)).lst⟩
    · have e1 : (List.range J.length).flatMap (fun i => dblS (stepsL J[i]!)) = J.flatMap fun r => dblS (stepsL r) := range_flat (fun r => dblS (stepsL r)) J
      have e2 : (J.flatMap fun r => dblS (stepsL r)) = dblS (J.flatMap stepsL) := by unfold dblS; rw [List.flatMap_assoc]
      rw [e1, e2]
      have e3 : (dblS (J.flatMap stepsL)).Perm (dblS (rows.flatMap stepsL)) := List.Perm.flatMap_right _ hperm
      refine e3.trans ?_
      rw [hst]
      have e4 : stepsL (P0 :: l) = stepsR P0 l := rfl
      rw [e4, ← filter_dbl (g := fun s => decide (InB (2 * lx) (2 * ly) (2 * (hx - lx)) (2 * (hy - ly)) s.1 ∧ InB (2 * lx) (2 * ly) (2 * (hx - lx)) (2 * (hy - ly)) s.2))]
      intro s hs
      have hu := unit_le (hS.unit s hs)
      have hf := steps_off l P0 ho hoff s hs
      have ek : keepS true lx ly hx hy s = decide ((lx ≤ s.1.1 ∧ s.1.1 ≤ hx ∧ ly ≤ s.1.2 ∧ s.1.2 ≤ hy) ∧ (lx ≤ s.2.1 ∧ s.2.1 ≤ hx ∧ ly ≤ s.2.2 ∧ s.2.2 ≤ hy)) := by
        have ea : alongB lx ly hx hy s.1 s.2 = false := by
          unfold alongB
          rw [Bool.or_eq_false_iff]
          constructor
          · rw [Bool.and_eq_false_iff]
            by_cases e : s.1.1 = s.2.1
            · right; have := hf.1 e; simp [this.1, this.2]
            · left; simp [e]
          · rw [Bool.and_eq_false_iff]
            by_cases e : s.1.2 = s.2.2
            · right; have := hf.2 e; simp [this.1, this.2]
            · left; simp [e]
        unfold keepS keepB
        rw [ea, Bool.eq_iff_iff]
        simp only [Bool.and_false, Bool.not_false, Bool.and_true, Bool.and_eq_true, decide_eq_true_eq, hasB_iff]
      rw [ek]
      obtain ⟨⟨a1, a2⟩, b1, b2⟩ := s
      simp only at hu ⊢
      constructor
      · rw [decide_eq_decide]
        unfold InB dblP midS
        simp only
        constructor <;> intro hh' <;> omega
      · rw [decide_eq_decide]
        unfold InB dblP midS
        simp only
        constructor <;> intro hh' <;> omega
    · have hn := (hrow _ (hget i hi)).ne
      cases hsl : stepsL J[i]! with
      | nil => exact hn hsl
      | cons s ss =>
        rw [hsl] at e
        cases e
  have hsm : ∀ r ∈ J, ∀ p ∈ r, Sm p.1 ∧ Sm p.2 := fun r hr p hp => by
    have h3 := hasB_iff.1 ((hrow r hr).inb p hp)
    have h5 := hl.sm
    have h6 := hh.sm
    unfold Sm at h5 h6 ⊢
    simp only at h5 h6
    omega
  have hcorn : ∀ i, i < J.length → ¬ CornB (2 * lx) (2 * ly) (2 * (hx - lx)) (2 * (hy - ly)) (dblP (J[i]!.head!)) ∧ ¬ CornB (2 * lx) (2 * ly) (2 * (hx - lx)) (2 * (hy - ly)) (dblP (J[i]!.getLast!)) := fun i hi => by
    obtain ⟨s, hs, e⟩ := cut.first hi
    obtain ⟨u, hu, e'⟩ := cut.last hi
    constructor
    · have := cut.cut.corner s (cut.mem hi hs).1
      rw [e] at this; exact this
    · have := cut.cut.corner2 u (cut.mem hi hu).1
      rw [e'] at this; exact this
  have hat : ∀ e, e < 2 * J.length → ∃ p : Int × Int, endE lx ly hx hy J e = ⟨p.1, p.2, decide (e % 2 = 0), (sideI lx ly hx hy p.1 p.2).toNat, e / 2⟩ ∧ dblP p = endA (fun i => dblP (J[i]!.head!)) (fun i => dblP (J[i]!.getLast!)) e ∧ (Sm p.1 ∧ Sm p.2) ∧
      OnX lx ly hx hy p ∧ ¬ CornB (2 * lx) (2 * ly) (2 * (hx - lx)) (2 * (hy - ly)) (dblP p) := fun e he => by
    have hi : e / 2 < J.length := by omega
    have hm := hget _ hi
    rcases Nat.mod_two_eq_zero_or_one e with h0 | h0
    · refine ⟨J[e / 2]!.head!, ?_, ?_, hsm _ hm _ (head_mem (hrne _ hm)), (hrow _ hm).hd, (hcorn _ hi).1⟩
      · unfold endE; simp only [h0, if_true]
      · unfold endA; rw [if_pos h0]
    · refine ⟨J[e / 2]!.getLast!, ?_, ?_, hsm _ hm _ (last_mem (hrne _ hm)), (hrow _ hm).lst, (hcorn _ hi).2⟩
      · unfold endE; simp only [h0, if_neg (show ¬ (1 : Nat) = 0 by decide)]
      · unfold endA; rw [if_neg (by omega)]
  have hon : ∀ {p}, OnX lx ly hx hy p → OnB lx ly hx hy p := fun h => by unfold OnX at h; unfold OnB; omega
  have hJlen : J.length ≤ 100 := by have := hfin.len; omega
  have hlr : ∀ r ∈ rows, ∀ p ∈ r, Sm p.1 ∧ Sm p.2 := fun r hr p hp => by
    have h3 := hasB_iff.1 ((hok r hr).1 p hp)
    have h5 := hl.sm
    have h6 := hh.sm
    unfold Sm at h5 h6 ⊢
    simp only at h5 h6
    omega
  refine ⟨jn, J, ⟨⟨fun r hr => ⟨(K.len r hr).1, by have := (K.len r hr).2; omega⟩, hlr, by have := hfin.len; omega, List.length_pos_iff.2 hne, fun k hk hor => hon (K.ends k hk hor), fun hj k hk h1 => hon (K.starts hj k hk h1), K.two, fun hj => ?_, K.meet, ?_, ?_⟩, hJ2, ⟨hJlen, hpos, ?_, hsm, ?_, ?_⟩, cut, hrow4, ?_⟩⟩
  · have := K.inn hj
    unfold Ins at this
    exact this
  · rw [← hJ2]
    intro r hr e
    obtain ⟨i, hi, rfl⟩ := List.mem_iff_getElem.1 hr
    refine cut.A_ne_B hi hi ?_
    show dblP (J[i]!.head!) = dblP (J[i]!.getLast!)
    rw [getElem!_pos J i hi, e]
  · rw [← hJ2]
    intro r hr
    have := hrow4 r hr
    exact ⟨this.len.1, by have := this.len.2; omega, hsm r hr⟩
  · intro r hr
    have := hrow4 r hr
    exact ⟨this.len.1, by have := this.len.2; omega⟩
  · intro e he
    obtain ⟨p, hp, -, -, on, nc⟩ := hat e he
    obtain ⟨s1, s2, s3⟩ := side_at h1 h2 on nc
    rw [hp]
    exact ⟨s1.bd.1, s1.bd.2, s2, s3⟩
  · intro e e' he he' hne' hq
    obtain ⟨p, hp, q1, sm, on, nc⟩ := hat e he
    obtain ⟨p', hp', q1', sm', on', nc'⟩ := hat e' he'
    obtain ⟨s1, -⟩ := side_at h1 h2 on nc
    obtain ⟨s1', -⟩ := side_at h1 h2 on' nc'
    rw [hp, hp'] at hq
    have a1 := side_lt h1 h2 sm sm' s1 s1' (decide (e % 2 = 0)) (decide (e' % 2 = 0)) (e / 2) (e' / 2)
    have a2 := side_lt h1 h2 sm' sm s1' s1 (decide (e' % 2 = 0)) (decide (e % 2 = 0)) (e' / 2) (e / 2)
    rw [hq] at a1 a2
    have b1 := posB_at (by omega) (by omega) (onX_S on)
    have b2 := posB_at (by omega) (by omega) (onX_S on')
    have hpp : posB (2 * lx) (2 * ly) (2 * (hx - lx)) (2 * (hy - ly)) (dblP p) = posB (2 * lx) (2 * ly) (2 * (hx - lx)) (2 * (hy - ly)) (dblP p') := by
      have c1 : ¬ posB (2 * lx) (2 * ly) (2 * (hx - lx)) (2 * (hy - ly)) (dblP p) < posB (2 * lx) (2 * ly) (2 * (hx - lx)) (2 * (hy - ly)) (dblP p') := fun h => Int.lt_irrefl _ (a1.2 h)
      have c2 : ¬ posB (2 * lx) (2 * ly) (2 * (hx - lx)) (2 * (hy - ly)) (dblP p') < posB (2 * lx) (2 * ly) (2 * (hx - lx)) (2 * (hy - ly)) (dblP p) := fun h => Int.lt_irrefl _ (a2.2 h)
      omega
    have : dblP p = dblP p' := by rw [← b1.2.2, ← b2.2.2, hpp]
    exact hne' (cut.end_inj he he' (by rw [← q1, ← q1', this]))
  · intro e he
    obtain ⟨p, hp, q1, sm, on, nc⟩ := hat e he
    exact ⟨p, hp, q1, sm, (side_at h1 h2 on nc).1⟩
end Go.Proofs.Ytafanlbfbfbeoaa

/- The machine of smartWrap, on the rows of a ring, comes to its end. -/
namespace Go.Proofs.Ytafanlbfbfbeoaa

section
variable {o lx ly hx hy : Int} {rows : List (List (Int × Int))} {m : Nat} {d : Array Nat} {oe nx : Nat → Nat}

theorem run_inv (O : OrdOk m d oe nx) (hne : ∀ i, i < m → rows[i]! ≠ []) (hhd : ∀ i j, i < m → j < m → dblP (rows[i]!.head!) = dblP (rows[j]!.head!) → i = j) : ∀ k,
    (∃ Ls, InvA o lx ly hx hy rows m d nx Ls (runW o lx ly hx hy rows d oe k initW)) ∨ (∃ Ls i0 a L, InvB o lx ly hx hy rows m d nx Ls i0 a L (runW o lx ly hx hy rows d oe k initW))
  | 0 => .inl ⟨[], ⟨⟨by simp, by simp, by simp⟩, rfl, rfl, fun e _ => by simp [initW, runW], Nat.zero_le _, fun j hj => absurd hj (Nat.not_lt_zero _)⟩⟩
  | k + 1 => by
    rw [runW_step]
    rcases run_inv O hne hhd k with ⟨Ls, I⟩ | ⟨Ls, i0, a, L, I⟩
    · by_cases hi : (runW o lx ly hx hy rows d oe k initW).i < 2 * (2 * m)
      · rcases stepA O hne I hi with ⟨I2, _⟩ | ⟨a, I2⟩
        · exact .inl ⟨Ls, I2⟩
        · exact .inr ⟨Ls, a, a, [], I2⟩
      · rw [stepW_stop _ (by rw [O.size]; omega)]
        exact .inl ⟨Ls, I⟩
    · rcases stepB O hne hhd I with ⟨I2, _⟩ | I2
      · exact .inl ⟨_, I2⟩
      · exact .inr ⟨_, _, _, _, I2⟩

theorem run_safe (O : OrdOk m d oe nx) (hne : ∀ i, i < m → rows[i]! ≠ []) (hhd : ∀ i j, i < m → j < m → dblP (rows[i]!.head!) = dblP (rows[j]!.head!) → i = j) (k : Nat) : SafeW rows d (runW o lx ly hx hy rows d oe k initW) := by
  intro hlt hev hu hcur hhead
  rcases run_inv (o := o) (lx := lx) (ly := ly) (hx := hx) (hy := hy) O hne hhd k with ⟨Ls, I⟩ | ⟨Ls, i0, a, L, I⟩
  · exact absurd I.cur hcur
  · obtain ⟨q, hq, hqa, hsi⟩ := I.at_
    obtain ⟨hi0, hcne, hch, hLh⟩ := I.head hne
    have ham : a < m := I.lt a (by simp)
    have hnx : nx a < m := O.nxlt a ham
    have hnf := I.done.closed O ham (I.apart a (by simp))
    have hd := O.next q hq (by omega)
    rw [hqa, show (2 * a + 1) / 2 = a by omega] at hd
    rw [O.size, hsi] at hhead ⊢
    rw [hd] at hhead ⊢
    rw [hch, show 2 * nx a / 2 = nx a by omega] at hhead
    have haL : a ∉ L := fun h => by
      have := I.nodup
      rw [List.nodup_append] at this
      exact this.2.2 a h a (by simp) rfl
    rw [I.used _ (by omega), decide_eq_false_iff_not, show (2 * nx a + 1) / 2 = nx a by omega]
    rintro (h | ⟨h, _⟩)
    · exact hnf h
    · rcases chainN_mem (chainN_snoc I.path rfl) h with e | ⟨b, hb, e⟩
      · exact hhead (by rw [e])
      · have := O.nxinj _ _ (I.lt b (by simp [hb])) ham e
        subst this
        exact haL hb
end

/-- What a run has made. -/
structure RunOk (o lx ly hx hy : Int) (R : List ((Int × Int) × (Int × Int))) (J : List (List (Int × Int))) (d : Array Nat) (oe : Nat → Nat) (K : Nat) (nx len : Nat → Nat) (Ls : List (List Nat)) : Prop where
  few : K ≤ 100000
  fin : 2 * d.size ≤ (runW o lx ly hx hy J d oe K initW).i
  safe : ∀ k, SafeW J d (runW o lx ly hx hy J d oe k initW)
  res : (runW o lx ly hx hy J d oe K initW).res = Ls.map (ringP o lx ly hx hy J nx)
  perm : Ls.flatten.Perm (List.range J.length)
  round : ∀ L ∈ Ls, L ≠ [] ∧ ∃ i, ChainN nx i L i
  ord : OrdOk J.length d oe nx
  arcs : ArcsOk (2 * lx) (2 * ly) (2 * (hx - lx)) (2 * (hy - ly)) J.length (fun i => dblP (J[i]!.head!)) (fun i => dblP (J[i]!.getLast!)) o nx len

theorem ring_run {o lx ly hx hy : Int} (ho : o = 1 ∨ o = -1) (h1 : lx < hx) (h2 : ly < hy) {P0 : Int × Int} {l : List (Int × Int)} {rows : List (List (Int × Int))} {jn : Bool} {J : List (List (Int × Int))} (K : RingRows lx ly hx hy P0 l rows jn J) {d : Array Nat} {oe : Nat → Nat} (h : SortO o lx ly hx hy J J.length d oe) :
    ∃ Kn Ls len, RunOk o lx ly hx hy (dblS (stepsR P0 l)) J d oe Kn (nxO J.length d oe) len Ls := by
  obtain ⟨g, q, hsz, hid⟩ := h
  have hpos := K.wrap.pos
  have hfew := K.wrap.few
  have hs : ∀ i j, i < j → j < 2 * J.length → o * posB (2 * lx) (2 * ly) (2 * (hx - lx)) (2 * (hy - ly)) (endA (fun i => dblP (J[i]!.head!)) (fun i => dblP (J[i]!.getLast!)) d[i]!) < o * posB (2 * lx) (2 * ly) (2 * (hx - lx)) (2 * (hy - ly)) (endA (fun i => dblP (J[i]!.head!)) (fun i => dblP (J[i]!.getLast!)) d[j]!) := fun i j hij hj => by
    have hlt := g.2 i j (Nat.zero_le _) hij hj
    have hne : d[i]! ≠ d[j]! := fun e => by have := q.1 _ _ (by omega) hj e; omega
    have hi2 := hid i (by omega)
    have hj2 := hid j hj
    have hap := K.wrap.apart _ _ hi2 hj2 hne
    obtain ⟨p, hp, q1, sm, s1⟩ := K.at_ _ hi2
    obtain ⟨p', hp', q1', sm', s1'⟩ := K.at_ _ hj2
    rw [← q1, ← q1']
    have a1 := side_lt h1 h2 sm sm' s1 s1' (decide (d[i]! % 2 = 0)) (decide (d[j]! % 2 = 0)) (d[i]! / 2) (d[j]! / 2)
    have a2 := side_lt h1 h2 sm' sm s1' s1 (decide (d[j]! % 2 = 0)) (decide (d[i]! % 2 = 0)) (d[j]! / 2) (d[i]! / 2)
    rw [← hp, ← hp'] at a1 a2
    have hlt2 : (o = 1 → ¬ (endE lx ly hx hy J d[j]!).pos < (endE lx ly hx hy J d[i]!).pos) ∧ (o = -1 → ¬ (endE lx ly hx hy J d[i]!).pos < (endE lx ly hx hy J d[j]!).pos) := by
      constructor
      · intro e
        subst e
        unfold ltO at hlt
        rw [if_pos rfl] at hlt
        unfold ltP at hlt
        exact of_decide_eq_false hlt
      · intro e
        subst e
        unfold ltO at hlt
        rw [if_neg (by decide)] at hlt
        unfold gtP at hlt
        exact of_decide_eq_false hlt
    clear hlt g q hid hp hp' q1 q1' s1 s1'
    generalize (endE lx ly hx hy J d[i]!).pos = u at *
    generalize (endE lx ly hx hy J d[j]!).pos = u' at *
    generalize posB (2 * lx) (2 * ly) (2 * (hx - lx)) (2 * (hy - ly)) (dblP p) = t at *
    generalize posB (2 * lx) (2 * ly) (2 * (hx - lx)) (2 * (hy - ly)) (dblP p') = t' at *
    rcases ho with rfl | rfl
    · have := hlt2.1 rfl; clear hlt2; omega
    · have := hlt2.2 rfl; clear hlt2; omega
  obtain ⟨O, Ar⟩ := order_ok K.cut hpos ho hsz hid q.1 q.2 hs
  have hget : ∀ i, i < J.length → J[i]! ∈ J := fun i hi => by rw [getElem!_pos J i hi]; exact List.getElem_mem hi
  have hne : ∀ i, i < J.length → J[i]! ≠ [] := fun i hi e => by have := (K.row _ (hget i hi)).len; rw [e] at this; simp at this
  have hhd : ∀ i j, i < J.length → j < J.length → dblP (J[i]!.head!) = dblP (J[j]!.head!) → i = j := fun i j hi hj e => K.cut.A_inj hi hj e
  obtain ⟨Kn, Ls, k1, k2, k3, -, k5, k6⟩ := run_all (o := o) (lx := lx) (ly := ly) (hx := hx) (hy := hy) O hne hhd
  refine ⟨Kn, Ls, _, ?_, ?_, run_safe O hne hhd, k3, k5, k6, O, Ar⟩
  · have a1 : J.length * (4 * J.length + 2) ≤ 100 * (4 * 100 + 2) := Nat.mul_le_mul hfew (by omega)
    omega
  · rw [hsz]; omega

theorem ring_ends {o lx ly hx hy : Int} (ho : o = 1 ∨ o = -1) (h1 : lx < hx) (h2 : ly < hy) {P0 : Int × Int} {l : List (Int × Int)} {rows : List (List (Int × Int))} {jn : Bool} {J : List (List (Int × Int))} (K : RingRows lx ly hx hy P0 l rows jn J) : EndOk o lx ly hx hy J := fun d oe h => by
  obtain ⟨Kn, Ls, len, H⟩ := ring_run ho h1 h2 K h
  exact ⟨Kn, H.few, H.fin, H.safe⟩
end Go.Proofs.Ytafanlbfbfbeoaa

/- A ring that is nowhere in the box: no rows. -/
namespace Go.Proofs.Ytafanlbfbfbeoaa
open Go.RowKit

set_option maxRecDepth 100000 in
set_option maxHeartbeats 4000000 in
theorem clipNone_any (lx ly hx hy : Int) (hl : Near (lx, ly)) (hh : Near (hx, hy)) (h1 : lx < hx) (h2 : ly < hy) (v rv : Value) (ps : List (Int × Int)) (B : Nat) (w : World) (h4 : 4 ≤ ps.length) (hlen : ps.length ≤ 1000) (hn : ∀ p ∈ ps, Near p)
    (hoc : ∀ i (h : i + 1 < ps.length), Octi ps[i] ps[i + 1]) (he : ps[ps.length - 1] = ps[0]) (hR : lineL true lx ly hx hy ps = []) (h : RowsAt w B 74 69 ptE v [(rv, ps)]) :
    Calls Try.prog 41 #[.agg #[.float .f64 (F lx), .float .f64 (F ly), .float .f64 (F hx), .float .f64 (F hy)], v] w
      fun e w' => e = .returned (.tuple #[.slice none 0 0, .slice none 0 0]) ∧ Below w.heap.size w w' := by
  obtain ⟨ao, cap, g, rfl, hg, hc⟩ := h.read
  obtain ⟨rfl, hgs, _⟩ := hg (by simp)
  obtain ⟨aq, cq, _, c0, ho⟩ := hc 0 (by simp)
  have c0 : w.cell? ⟨g, 0, none⟩ = some (.slice aq ps.length cq) := c0
  have ho : w.ownsRow 0 69 2 (.slice aq ps.length cq) ps.length (ps.flatMap ptE) := ho
  simp only [List.length_cons, List.length_nil, Nat.zero_add]
  clear h hg hc
  obtain ⟨i1, hj, hy0, hy1, hy2⟩ := info_parts Try.info100
  have hls := hl.sm
  have hhs := hh.sm
  have hp0 := (hn ps[0] (List.getElem_mem _)).sm
  have hline := fun go gp W hgo hgl hp hr => lineStringO_full go gp lx ly hx hy hl hh h1 h2 aq cq ps 0 W hlen hn hoc hgo hgl hp hr
  rw [hR] at hline
  have hclo := fun W hr => ringClosed_any aq cq ps 0 W h4 (by omega) hp0 he hr
  clear hR hn hoc hl hh he hp0
  go_enter Try.func41, Try.ntmps41
  go_wp2_with fail
  have hb0 := Blk.new w #[.float .f64 (F lx), .float .f64 (F ly), .float .f64 (F hx), .float .f64 (F hy)] 71
  go_loopw [6, 18] (fun v6 vi wr => ∃ (k : Nat), k ≤ 1 ∧ vi = .int .i64 k ∧ Blk wr w.heap.size #[.float .f64 (F lx), .float .f64 (F ly), .float .f64 (F hx), .float .f64 (F hy)] 71 ∧ Below w.heap.size w wr ∧
      v6 = .slice none 0 0)
    (fun _ i _ => 1 - (intOf i).toNat)
  case atStart => exact ⟨0, by omega, rfl, hb0, (Below.refl _ _).alloc (Nat.le_refl _) _, rfl⟩
  case round =>
    obtain ⟨k, hk, rfl, hbx, hbel, rfl⟩ := hrel
    by_cases hk0 : k = 0
    · subst hk0
      have d0 : wr.cell? ⟨g, 0, none⟩ = some (.slice aq ps.length cq) := (hbel.cell (by exact hgs)).trans c0
      have hor := own_below ho hbel (Nat.le_refl _)
      have e0 : wr.cell? ⟨w.heap.size, 0, none⟩ = some (.float .f64 (F lx)) := hbx.cell 0
      have e1 : wr.cell? ⟨w.heap.size, 1, none⟩ = some (.float .f64 (F ly)) := hbx.cell 1
      have e2 : wr.cell? ⟨w.heap.size, 2, none⟩ = some (.float .f64 (F hx)) := hbx.cell 2
      have e3 : wr.cell? ⟨w.heap.size, 3, none⟩ = some (.float .f64 (F hy)) := hbx.cell 3
      have hcl := fun n => hclo (wr.drewN n) (own_below ho (below_drewN hbel n) (Nat.le_refl _))
      have hclo2 := hclo
      clear hclo hb0
      go_wp2_with fail
      go_quiet ((go_at_call 47; refine Calls.quiet_of (hcl _)))
      go_wp2_with fail
      have HS : Hid (∀ W, Below wr.heap.size wr W → (W.cell? ⟨w.heap.size, 0, none⟩ = some (.float .f64 (F lx)) ∧ W.cell? ⟨w.heap.size, 1, none⟩ = some (.float .f64 (F ly)) ∧ W.cell? ⟨w.heap.size, 2, none⟩ = some (.float .f64 (F hx)) ∧ W.cell? ⟨w.heap.size, 3, none⟩ = some (.float .f64 (F hy)))) :=
        fun W hb => ⟨cell_later hb e0, cell_later hb e1, cell_later hb e2, cell_later hb e3⟩
      have hBq : Below wr.heap.size wr (wr.drewN nq) := below_drewN (Below.refl _ _) _
      go_cut [9] (fun v9 wc => ∃ xs, xs.map Prod.snd = ([] : List (List (Int × Int))) ∧ Lines wc (w.heap.size + 1) v9 xs ∧ Below wr.heap.size wr wc)
      case first =>
        go_region_held3 (fun w' => (w'.cell? ⟨w.heap.size, 0, none⟩ = some (.float .f64 (F lx)) ∧ w'.cell? ⟨w.heap.size, 1, none⟩ = some (.float .f64 (F ly)) ∧ w'.cell? ⟨w.heap.size, 2, none⟩ = some (.float .f64 (F hx)) ∧ w'.cell? ⟨w.heap.size, 3, none⟩ = some (.float .f64 (F hy))))
          ((refine HS.out _ ?_; repeat first | assumption | exact Below.refl _ _ | refine Below.drew ?_ | refine below_drewN ?_ _ | refine below_alloc ?_ _ (Nat.le_refl _)))
          (first
            | (go_at_call 49; refine (openBound_any _).mono ?_; rintro e wA ⟨rfl, hoA, hbA⟩; have hBA : Below wr.heap.size wr wA := below_step (by repeat first | assumption | exact Below.refl _ _ | refine Below.drew ?_ | refine below_drewN ?_ _ | refine below_alloc ?_ _ (Nat.le_refl _)) hbA; have horA := own_below hor hBA (Nat.le_refl _))
            | (go_at_call 48; refine (hline _ _ _ (by first | exact (Blk.new _ _ _).cell 0 | exact (Blk.new _ _ _).drew.cell 0 | exact (Blk.new _ _ _).drew.drew.cell 0) (by first | exact (Blk.new _ _ _).lt | exact (Blk.new _ _ _).drew.lt | exact (Blk.new _ _ _).drew.drew.lt) (by repeat first | exact hoA | refine Blk.drew ?_ | refine Blk.alloc ?_ _) (by repeat first | exact horA | refine World.ownsRow.drew ?_ | refine World.ownsRow.alloc ?_ _)).mono ?_; rintro e wB ⟨vB, xB, rfl, hxB, hrB, hbB, hlB, hnB⟩; have hBB : Below wr.heap.size wr wB := below_step (by repeat first | assumption | exact Below.refl _ _ | refine Below.drew ?_ | refine below_drewN ?_ _ | refine below_alloc ?_ _ (Nat.le_refl _)) hbB; have hrB2 := hrB.mono (B' := wr.heap.size) (Below.size (B := wr.heap.size) (w := wr) (by repeat first | assumption | exact Below.refl _ _ | refine Below.drew ?_ | refine below_drewN ?_ _ | refine below_alloc ?_ _ (Nat.le_refl _)))))
        all_goals go_wp2_with fail
        all_goals go_meet
        all_goals exact ⟨xB, hxB, hrB2.mono (B' := w.heap.size + 1) hbx.lt, hBB⟩
      case rest =>
        obtain ⟨xs, hxs, hln, hbc⟩ := hcut
        have hbx2 := hbx.below hbc hbx.lt
        have hB2 := hbel.trans (hbc.mono hbel.size)
        have hxl : xs = [] := List.map_eq_nil_iff.1 hxs
        subst hxl
        obtain ⟨aoR, capR, hv9, hoR, hrR⟩ := hln.rows
        subst hv9
        clear hbx hbel hbc hor HS hBq e0 e1 e2 e3 hcl hline d0 hln hoR hrR hxs hclo2
        go_wp2_with fail
        go_roundw
        case rel => exact ⟨1, by omega, by go_num, hbx2, hB2, rfl⟩
        case measure => simp [intOf]
    · obtain rfl : k = 1 := by omega
      go_wp2_with fail
      go_loopw [5, 13, 158] (fun v5 v13 v158 wr2 => wr2 = wr ∧ v5 = .slice none 0 0 ∧ v13 = .int .i64 0 ∧ v158 = .int .i64 0) (fun _ _ _ _ => 0)
      case atStart => exact ⟨rfl, rfl, rfl, rfl⟩
      case round =>
        obtain ⟨rfl, rfl, rfl, rfl⟩ := hrel
        go_wp2_with fail
        go_ret2
        exact ⟨rfl, hbel⟩
end Go.Proofs.Ytafanlbfbfbeoaa

/- A ring, clipped smartly. -/
namespace Go.Proofs.Ytafanlbfbfbeoaa
open Go.RowKit

/-- What the laws tell of a ring and a box. -/
structure RingLaw (lx ly hx hy : Int) (P0 : Int × Int) (l : List (Int × Int)) : Prop where
  hl : Near (lx, ly)
  hh : Near (hx, hy)
  h1 : lx < hx
  h2 : ly < hy
  l0 : l ≠ []
  cl : lastOr P0 l = P0
  oct : OctiL P0 l
  simp : SimpS (stepsR P0 l)
  off : ∀ p ∈ P0 :: l, OffB lx ly hx hy p
  crn : ∀ s ∈ stepsR P0 l, OffC lx ly hx hy s
  len4 : 4 ≤ (P0 :: l).length
  len : (P0 :: l).length ≤ 100
  near : ∀ p ∈ P0 :: l, Near p

theorem RingLaw.octi {lx ly hx hy : Int} {P0 : Int × Int} {l : List (Int × Int)} (L : RingLaw lx ly hx hy P0 l) : ∀ i (h : i + 1 < (P0 :: l).length), Octi (P0 :: l)[i] (P0 :: l)[i + 1] := fun i hi =>
  octi_get (show OctiL P0 (P0 :: l) from ⟨octi_self _, L.oct⟩) i hi

theorem RingLaw.last {lx ly hx hy : Int} {P0 : Int × Int} {l : List (Int × Int)} (L : RingLaw lx ly hx hy P0 l) : ((P0 :: l)[(P0 :: l).length - 1]'(by simp)) = ((P0 :: l)[0]'(by simp)) := by
  refine ring_last (ps := P0 :: l) ?_ (by simp)
  have := L.cl
  unfold lastOr at this
  cases h : l with
  | nil => exact absurd h L.l0
  | cons Q l' =>
    rw [h] at this
    rw [List.head?_cons, List.getLast?_cons_cons, List.getLast?_eq_some_getLast (List.cons_ne_nil Q l')]
    rw [List.getLast?_eq_some_getLast (List.cons_ne_nil Q l')] at this
    simp only [Option.getD_some] at this
    rw [this]

/-- What a ring is, clipped smartly. -/
def SmartR (o lx ly hx hy : Int) (P0 : Int × Int) (l : List (Int × Int)) (res : List (List (Int × Int))) : Prop :=
  ((∀ p ∈ P0 :: l, Ins lx ly hx hy p) ∧ res = [(P0 :: l).map dblP]) ∨ ((∃ p ∈ P0 :: l, ¬ Ins lx ly hx hy p) ∧ lineL true lx ly hx hy (P0 :: l) = [] ∧ res = []) ∨
  ((∃ p ∈ P0 :: l, ¬ Ins lx ly hx hy p) ∧ ∃ jn J d oe K, RingRows lx ly hx hy P0 l (lineL true lx ly hx hy (P0 :: l)) jn J ∧ SortO o lx ly hx hy J J.length d oe ∧ 2 * d.size ≤ (runW o lx ly hx hy J d oe K initW).i ∧ K ≤ 100000 ∧ res = (runW o lx ly hx hy J d oe K initW).res)

theorem rows_det {lx ly hx hy : Int} {P0 : Int × Int} {l : List (Int × Int)} {rows : List (List (Int × Int))} {jn jn' : Bool} {J J' : List (List (Int × Int))} (h : RingRows lx ly hx hy P0 l rows jn J) (h' : RingRows lx ly hx hy P0 l rows jn' J') : J = J' := by
  have key : ∀ {jn jn' : Bool}, RowsOk lx ly hx hy rows jn → RowsOk lx ly hx hy rows jn' → jn = true → jn' = true := fun {jn jn'} a a' hj => by
    cases jn' with
    | true => rfl
    | false =>
      exfalso
      have hp := a.pos
      have e1 := a'.ends (rows.length - 1) (by omega) (.inl rfl)
      rw [← last_at rows (rows.length - 1) (by omega) (by omega), a.meet hj] at e1
      have e2 := a.inn hj
      unfold OnB at e1
      omega
  have e : jn = jn' := by
    cases jn with
    | true => exact (key h.ok h'.ok rfl).symm
    | false =>
      cases jn' with
      | false => rfl
      | true => exact absurd (key h'.ok h.ok rfl) (by decide)
  rw [h.eq, h'.eq, e]

/-- It is told. -/
theorem smartR_same {o lx ly hx hy : Int} {P0 : Int × Int} {l : List (Int × Int)} {res res' : List (List (Int × Int))} (h : SmartR o lx ly hx hy P0 l res) (h' : SmartR o lx ly hx hy P0 l res') : res = res' := by
  rcases h with ⟨a, e⟩ | ⟨⟨p, hp, np⟩, b, e⟩ | ⟨⟨p, hp, np⟩, jn, J, d, oe, K, k1, k2, k3, k4, e⟩
  · rcases h' with ⟨a', e'⟩ | ⟨⟨p, hp, np⟩, _⟩ | ⟨⟨p, hp, np⟩, _⟩
    · rw [e, e']
    · exact absurd (a p hp) np
    · exact absurd (a p hp) np
  · rcases h' with ⟨a', e'⟩ | ⟨_, b', e'⟩ | ⟨_, jn', J', d', oe', K', k1', _⟩
    · exact absurd (a' p hp) np
    · rw [e, e']
    · have := k1'.ok.pos; rw [b] at this; simp at this
  · rcases h' with ⟨a', e'⟩ | ⟨_, b', e'⟩ | ⟨_, jn', J', d', oe', K', k1', k2', k3', k4', e'⟩
    · exact absurd (a' p hp) np
    · have := k1.ok.pos; rw [b'] at this; simp at this
    · have hJ := rows_det k1 k1'
      subst hJ
      rw [e, e']
      exact ends_same k1.wrap k2 k2' k3 k3'

/-- Bounds of it. -/
theorem smartR_bd {o lx ly hx hy : Int} {P0 : Int × Int} {l : List (Int × Int)} {res : List (List (Int × Int))} (L : RingLaw lx ly hx hy P0 l) (h : SmartR o lx ly hx hy P0 l res) : res.length ≤ 1000000 ∧ ∀ r ∈ res, r.length ≤ 100000000 := by
  have hlen := L.len
  rcases h with ⟨a, rfl⟩ | ⟨_, b, rfl⟩ | ⟨_, jn, J, d, oe, K, k1, k2, k3, k4, rfl⟩
  · refine ⟨by simp, fun r hr => ?_⟩
    rw [List.mem_singleton.1 hr, List.length_map]; omega
  · exact ⟨by simp, fun r hr => by simp at hr⟩
  · have := curOk_run (o := o) k1.wrap rfl k2.2.2.1 k2.2.2.2 (fun e he => (k2.2.1.2 e he).1) K
    refine ⟨by have := this.res; omega, fun r hr => ?_⟩
    have h1 := this.rlen r hr
    have h2 : 500 * K ≤ 500 * 100000 := Nat.mul_le_mul_left _ k4
    omega

theorem near_sum {lx ly hx hy : Int} (hl : Near (lx, ly)) (hh : Near (hx, hy)) : Sm (hx + lx) ∧ Sm (hy + ly) := by
  unfold Near at hl hh; unfold Sm; simp only at hl hh; omega

/-- smartWrap of the rows that clipRings has made. -/
theorem wrapRows_any {o lx ly hx hy : Int} (ho : o = 1 ∨ o = -1) {P0 : Int × Int} {l : List (Int × Int)} (L : RingLaw lx ly hx hy P0 l) (hout : ∃ p ∈ P0 :: l, ¬ Ins lx ly hx hy p) {jn : Bool} {J : List (List (Int × Int))} (K : RingRows lx ly hx hy P0 l (lineL true lx ly hx hy (P0 :: l)) jn J)
    (v : Value) (xs : List (Value × List (Int × Int))) (B : Nat) (w : World) (hB : B ≤ w.heap.size) (hln : Lines w B v xs) (hxs : xs.map Prod.snd = J) :
    Calls Try.prog 42 #[.agg #[.float .f64 (F lx), .float .f64 (F ly), .float .f64 (F hx), .float .f64 (F hy)], v, .int .i8 o] w fun e w' => ∃ (rv : Value) (ps : List (Value × List (Value × List (Int × Int)))), e = .returned rv ∧
      Hid (∃ res, SmartR o lx ly hx hy P0 l res ∧ ps.map (fun x => x.2.map Prod.snd) = res.map fun r => [r]) ∧ PolysAt w' B 86 74 69 hE rv ps ∧ Below B w w' := by
  have hls := L.hl.sm
  have hhs := L.hh.sm
  have hsum := near_sum L.hl L.hh
  refine (smartWrap_any o lx ly hx hy ho hls.1 hls.2 hhs.1 hhs.2 hsum.1 hsum.2 J K.wrap v xs B w hB hln hxs (ring_ends ho L.h1 L.h2 K)).mono ?_
  rintro e w' ⟨rv, ps, d, oe, Kn, rfl, HS, hp, hb⟩
  exact ⟨rv, ps, rfl, ⟨_, .inr (.inr ⟨hout, jn, J, d, oe, Kn, K, HS.out.1, HS.out.2.1, HS.out.2.2.1, rfl⟩), HS.out.2.2.2⟩, hp, hb⟩

set_option maxRecDepth 100000 in
set_option maxHeartbeats 2000000 in
theorem smartRing_any {o lx ly hx hy : Int} (ho : o = 1 ∨ o = -1) {P0 : Int × Int} {l : List (Int × Int)} (L : RingLaw lx ly hx hy P0 l) (ao : Option Addr) (cap : Nat) (ps : List (Int × Int)) (hps : ps = P0 :: l) (B : Nat) (w : World) (h : w.ownsRow B 69 2 (.slice ao ps.length cap) ps.length (ps.flatMap ptE)) :
    Calls Try.prog 27 #[.agg #[.float .f64 (F lx), .float .f64 (F ly), .float .f64 (F hx), .float .f64 (F hy)], .slice ao ps.length cap, .int .i8 o] w
      fun e w' => ∃ (v : Value) (qs : List (Value × List (Value × List (Int × Int)))), e = .returned v ∧ Hid (∃ res, SmartR o lx ly hx hy P0 l res ∧ qs.map (fun x => x.2.map Prod.snd) = res.map fun r => [r]) ∧ PolysAt w' w.heap.size 86 74 69 hE v qs ∧ Below w.heap.size w w' := by
  have hlen4 : 4 ≤ ps.length := by rw [hps]; exact L.len4
  have hlen : ps.length ≤ 1000 := by rw [hps]; have := L.len; omega
  have hn : ∀ p ∈ ps, Near p := by rw [hps]; exact L.near
  have hoc : ∀ i (h : i + 1 < ps.length), Octi ps[i] ps[i + 1] := by subst hps; exact L.octi
  have he : ps[ps.length - 1] = ps[0] := by subst hps; exact L.last
  by_cases hin : ∀ p ∈ P0 :: l, Ins lx ly hx hy p
  · have hoff := L.off
    rw [← hps] at hin hoff
    have hhas : ∀ p ∈ ps, hasB lx ly hx hy p.1 p.2 = true := fun p hp => hasB_iff.2 (by have := hin p hp; unfold Ins at this; omega)
    have hR := line_inside (by omega) (by rw [hps]; exact ⟨octi_self _, L.oct⟩) hhas hoff
    have hin0 := hin ps[0] (List.getElem_mem _)
    refine (smartIn_any lx ly hx hy L.hl L.hh L.h1 L.h2 o ao cap ps B w hlen4 hlen hn hoc he hR hin0 h).mono ?_
    rintro e w' ⟨v, r, u, rfl, hp, hb⟩
    exact ⟨v, _, rfl, ⟨[(P0 :: l).map dblP], .inl ⟨by rw [← hps]; exact hin, rfl⟩, by rw [← hps]; rfl⟩, hp, hb⟩
  · have hout : ∃ p ∈ P0 :: l, ¬ Ins lx ly hx hy p := Classical.byContradiction fun hc => hin fun p hp => Classical.byContradiction fun hp' => hc ⟨p, hp, hp'⟩
    clear hin
    by_cases hne : lineL true lx ly hx hy (P0 :: l) = []
    · have hclip := fun v B W hr => clipNone_any lx ly hx hy L.hl L.hh L.h1 L.h2 v (.slice ao ps.length cap) ps B W hlen4 hlen hn hoc he (by rw [hps]; exact hne) hr
      have HR : Hid (∃ res, SmartR o lx ly hx hy P0 l res ∧ ([] : List (Value × List (Value × List (Int × Int)))).map (fun x => x.2.map Prod.snd) = res.map fun r => [r]) := ⟨[], .inr (.inl ⟨hout, hne, rfl⟩), rfl⟩
      clear hoc he hn hout hne hps
      go_enter Try.func27, Try.ntmps27
      go_wp2_with fail
      have hr := rows_one (t := 74) (Nat.zero_le _) (h.alloc (.cells #[.float .f64 (F lx), .float .f64 (F ly), .float .f64 (F hx), .float .f64 (F hy)] 71))
      simp only [World.size_alloc] at hr
      refine (hclip _ 0 _ hr).mono ?_
      rintro e w1 ⟨rfl, hb1⟩
      have hB1 : Below w.heap.size w w1 := (((Below.refl _ _).alloc (Nat.le_refl _) _).alloc (by simp) _).trans (hb1.mono (by simp; omega))
      clear hclip hr hb1 h
      go_wp2_with fail
      go_ret
      exact ⟨_, [], rfl, HR, ⟨none, 0, rfl, World.ownsRow_nil _ _ _ _, fun x hx => by simp at hx⟩, hB1⟩
    · obtain ⟨jn, J, K⟩ := ring_rows L.hl L.hh L.h1 L.h2 L.l0 L.cl L.oct L.simp L.off L.crn L.len hne hout
      have hclip := fun v B W hr => clipRows_any lx ly hx hy L.hl L.hh L.h1 L.h2 v (.slice ao ps.length cap) ps B W hlen4 hlen hn hoc he (lineL true lx ly hx hy (P0 :: l)) jn (by rw [hps]) K.ok hr
      rw [← K.eq] at hclip
      have hwrap := fun v xs B w hB hln hxs => wrapRows_any ho L hout K v xs B w hB hln hxs
      have hJ := K.wrap.pos
      have hJ2 := K.wrap.few
      clear hoc he hn hout hne K hps
      go_enter Try.func27, Try.ntmps27
      go_wp2_with fail
      have hr := rows_one (t := 74) (Nat.zero_le _) (h.alloc (.cells #[.float .f64 (F lx), .float .f64 (F ly), .float .f64 (F hx), .float .f64 (F hy)] 71))
      simp only [World.size_alloc] at hr
      have hbx := (Blk.new w #[.float .f64 (F lx), .float .f64 (F ly), .float .f64 (F hx), .float .f64 (F hy)] 71).alloc (.cells #[.slice ao ps.length cap] 74)
      refine (hclip _ 0 _ hr).mono ?_
      rintro e w1 ⟨v1, xs, rfl, hxs, hln, hb1⟩
      have hB1 : Below w.heap.size w w1 := (((Below.refl _ _).alloc (Nat.le_refl _) _).alloc (by simp) _).trans (hb1.mono (by simp; omega))
      have hbx1 := hbx.below hb1 hbx.lt
      have hsz := hb1.size
      simp only [World.size_alloc] at hsz hln
      have hc0 := hbx1.cell 0
      have hc1 := hbx1.cell 1
      have hc2 := hbx1.cell 2
      have hc3 := hbx1.cell 3
      obtain ⟨aoR, capR, rfl, _, _⟩ := hln.rows
      obtain ⟨n, hn⟩ : ∃ n, n = xs.length := ⟨_, rfl⟩
      have hnJ : n = J.length := by rw [hn, ← hxs, List.length_map]
      rw [← hn] at hln ⊢
      have hnz : ((n : Int) == 0) = false := by simp; omega
      have HLN : Hid (Lines w1 (w.heap.size + 1 + 1) (.slice aoR n capR) xs) := hln
      have HXS : Hid (xs.map Prod.snd = J) := hxs
      clear hclip hr hb1 h hbx hbx1 hln hxs hn hnJ hJ hJ2
      go_wp2_with fail
      refine (hwrap _ xs _ _ hsz HLN.out HXS.out).mono ?_
      rintro e w2 ⟨rv, qs, rfl, HR, hp, hb2⟩
      have hB2 := hB1.trans (hb2.mono (by omega))
      have hp2 := hp.mono (B' := w.heap.size) (by omega)
      clear hwrap hp hb2 HLN HXS
      go_wp2_with fail
      go_ret
      exact ⟨rv, qs, rfl, HR, hp2, hB2⟩
end Go.Proofs.Ytafanlbfbfbeoaa

/- What a ring is, clipped smartly: rounds of rows; bounds. -/
namespace Go.Proofs.Ytafanlbfbfbeoaa

theorem walk_codes {o t : Int} (ho : o = 1 ∨ o = -1) : ∀ (k : Nat) (c : Int), Codes c → ∀ x ∈ walkB o t k c, Codes x
  | 0, _, _ => by simp [walkB]
  | k + 1, c, hc => fun x hx => by
    unfold walkB at hx
    split at hx
    · simp at hx
    · rcases List.mem_cons.1 hx with rfl | h
      · exact hc
      · exact walk_codes ho k _ (nextI_codes o c ho hc) x h

theorem pointI_in {lx ly hx hy c : Int} (h1 : lx < hx) (h2 : ly < hy) : hasB (2 * lx) (2 * ly) (2 * hx) (2 * hy) (pointI lx ly hx hy c).1 (pointI lx ly hx hy c).2 = true := by
  rw [hasB_iff]
  unfold pointI
  refine ⟨?_, ?_, ?_, ?_⟩ <;> simp only <;> (repeat' split) <;> omega

theorem around_in {o lx ly hx hy : Int} (h1 : lx < hx) (h2 : ly < hy) (f l : EPt) : ∀ p ∈ aroundL o lx ly hx hy f l, hasB (2 * lx) (2 * ly) (2 * hx) (2 * hy) p.1 p.2 = true := fun p hp => by
  unfold aroundL at hp
  split at hp
  · simp at hp
  · obtain ⟨c, -, rfl⟩ := List.mem_map.1 hp
    exact pointI_in h1 h2

theorem dbl_in {lx ly hx hy : Int} {p : Int × Int} (h : hasB lx ly hx hy p.1 p.2 = true) : hasB (2 * lx) (2 * ly) (2 * hx) (2 * hy) (dblP p).1 (dblP p).2 = true := by
  rw [hasB_iff] at h ⊢
  unfold dblP
  simp only
  omega

theorem flat_bd {f : Nat → List (Int × Int)} {B : Nat} : ∀ {L : List Nat}, (∀ i ∈ L, (f i).length ≤ B) → (L.flatMap f).length ≤ L.length * B
  | [], _ => by simp
  | i :: L, h => by
    have h1 := h i (by simp)
    have h2 := flat_bd (L := L) fun j hj => h j (by simp [hj])
    rw [List.flatMap_cons, List.length_append, List.length_cons, Nat.add_mul]
    omega

/-- A ring that has rows. -/
structure SmartRows (o lx ly hx hy : Int) (P0 : Int × Int) (l : List (Int × Int)) (res : List (List (Int × Int))) (J : List (List (Int × Int))) (d : Array Nat) (oe nx len : Nat → Nat) (Ls : List (List Nat)) : Prop where
  rr : ∃ jn, RingRows lx ly hx hy P0 l (lineL true lx ly hx hy (P0 :: l)) jn J
  run : ∃ K, RunOk o lx ly hx hy (dblS (stepsR P0 l)) J d oe K nx len Ls
  sort : SortO o lx ly hx hy J J.length d oe
  nx_eq : nx = nxO J.length d oe
  res : res = Ls.map (ringP o lx ly hx hy J nx)

theorem smart_rows {o lx ly hx hy : Int} (ho : o = 1 ∨ o = -1) {P0 : Int × Int} {l : List (Int × Int)} (L : RingLaw lx ly hx hy P0 l) {res : List (List (Int × Int))} (h : SmartR o lx ly hx hy P0 l res) :
    ((∀ p ∈ P0 :: l, Ins lx ly hx hy p) ∧ res = [(P0 :: l).map dblP]) ∨ ((∃ p ∈ P0 :: l, ¬ Ins lx ly hx hy p) ∧ lineL true lx ly hx hy (P0 :: l) = [] ∧ res = []) ∨ ((∃ p ∈ P0 :: l, ¬ Ins lx ly hx hy p) ∧ ∃ J d oe nx len Ls, SmartRows o lx ly hx hy P0 l res J d oe nx len Ls) := by
  rcases h with h | h | ⟨hout, jn, J, d, oe, K, k1, k2, k3, k4, e⟩
  · exact .inl h
  · exact .inr (.inl h)
  · right; right
    obtain ⟨Kn, Ls, len, R⟩ := ring_run ho L.h1 L.h2 k1 k2
    refine ⟨hout, J, d, oe, _, len, Ls, ⟨jn, k1⟩, ⟨Kn, R⟩, k2, rfl, ?_⟩
    rw [e, ← R.res, runW_same _ K Kn k3 R.fin]

theorem ringP_ok {o lx ly hx hy : Int} {_P0 : Int × Int} {_l : List (Int × Int)} (h1 : lx < hx) (h2 : ly < hy) {J : List (List (Int × Int))} (K : ∀ r ∈ J, JRow lx ly hx hy 400 r) {nx : Nat → Nat} {L : List Nat} (hL : ∀ i ∈ L, i < J.length) (hne : L ≠ []) (hlen : L.length ≤ 100) :
    (ringP o lx ly hx hy J nx L).length ≤ 100000 ∧ ∀ p ∈ ringP o lx ly hx hy J nx L, hasB (2 * lx) (2 * ly) (2 * hx) (2 * hy) p.1 p.2 = true := by
  have hget : ∀ i, i < J.length → J[i]! ∈ J := fun i hi => by rw [getElem!_pos J i hi]; exact List.getElem_mem hi
  have hrow : ∀ i ∈ L, (rowBr o lx ly hx hy J nx i).length ≤ 408 ∧ ∀ p ∈ rowBr o lx ly hx hy J nx i, hasB (2 * lx) (2 * ly) (2 * hx) (2 * hy) p.1 p.2 = true := fun i hi => by
    have hk := K _ (hget i (hL i hi))
    unfold rowBr
    constructor
    · have := aroundL_len o lx ly hx hy (endE lx ly hx hy J (2 * nx i)) (endE lx ly hx hy J (2 * i + 1))
      have h3 := hk.len.2
      rw [List.length_append]
      unfold dbl
      rw [List.length_map]
      omega
    · intro p hp
      rcases List.mem_append.1 hp with hp | hp
      · unfold dbl at hp
        obtain ⟨q, hq, rfl⟩ := List.mem_map.1 hp
        exact dbl_in (hk.inb q hq)
      · exact around_in h1 h2 _ _ p hp
  unfold ringP
  constructor
  · have := flat_bd (f := rowBr o lx ly hx hy J nx) (B := 408) (L := L) fun i hi => (hrow i hi).1
    have h3 : L.length * 408 ≤ 100 * 408 := Nat.mul_le_mul_right _ hlen
    rw [List.length_append, List.length_singleton]
    omega
  · intro p hp
    rcases List.mem_append.1 hp with hp | hp
    · obtain ⟨i, hi, hp⟩ := List.mem_flatMap.1 hp
      exact (hrow i hi).2 p hp
    · rw [List.mem_singleton.1 hp]
      have hh : L.head! ∈ L := by
        cases L with
        | nil => exact absurd rfl hne
        | cons a L => exact List.mem_cons_self
      have hm := hget _ (hL _ hh)
      have hk := K _ hm
      have hrn : J[L.head!]! ≠ [] := fun e => by have := hk.len; rw [e] at this; simp at this
      exact dbl_in (hk.inb _ (head_mem hrn))

theorem SmartRows.lists {o lx ly hx hy : Int} {P0 : Int × Int} {l : List (Int × Int)} {res : List (List (Int × Int))} {J : List (List (Int × Int))} {d : Array Nat} {oe nx len : Nat → Nat} {Ls : List (List Nat)} (S : SmartRows o lx ly hx hy P0 l res J d oe nx len Ls) :
    Ls.length ≤ J.length ∧ ∀ L ∈ Ls, L ≠ [] ∧ L.length ≤ J.length ∧ L.Nodup ∧ ∀ i ∈ L, i < J.length := by
  obtain ⟨K, R⟩ := S.run
  have hp := R.perm
  have hlen : Ls.flatten.length = J.length := by rw [hp.length_eq, List.length_range]
  have hnd : Ls.flatten.Nodup := hp.nodup_iff.2 List.nodup_range
  have hcount : ∀ (Ms : List (List Nat)), (∀ L ∈ Ms, L ≠ []) → Ms.length ≤ Ms.flatten.length := by
    intro Ms
    induction Ms with
    | nil => intro _; simp
    | cons M Ms ih =>
      intro h
      have h1 := ih fun L hL => h L (by simp [hL])
      have h2 : 0 < M.length := List.length_pos_iff.2 (h M (by simp))
      rw [List.flatten_cons, List.length_append, List.length_cons]
      omega
  refine ⟨by rw [← hlen]; exact hcount Ls fun L hL => (R.round L hL).1, fun L hL => ⟨(R.round L hL).1, ?_, ?_, fun i hi => ?_⟩⟩
  · rw [← hlen]
    exact (List.sublist_flatten_of_mem hL).length_le
  · exact hnd.sublist (List.sublist_flatten_of_mem hL)
  · exact List.mem_range.1 (hp.mem_iff.1 (List.mem_flatten.2 ⟨L, hL, hi⟩))

/-- Bounds. -/
theorem res_ok {o lx ly hx hy : Int} (ho : o = 1 ∨ o = -1) {P0 : Int × Int} {l : List (Int × Int)} (L : RingLaw lx ly hx hy P0 l) {res : List (List (Int × Int))} (h : SmartR o lx ly hx hy P0 l res) :
    res.length ≤ 100 ∧ ∀ r ∈ res, r.length ≤ 100000 ∧ ∀ p ∈ r, hasB (2 * lx) (2 * ly) (2 * hx) (2 * hy) p.1 p.2 = true := by
  rcases smart_rows ho L h with ⟨a, rfl⟩ | ⟨_, _, rfl⟩ | ⟨_, J, d, oe, nx, len, Ls, S⟩
  · refine ⟨by simp, fun r hr => ?_⟩
    rw [List.mem_singleton.1 hr]
    refine ⟨by have := L.len; rw [List.length_map]; omega, fun p hp => ?_⟩
    obtain ⟨q, hq, rfl⟩ := List.mem_map.1 hp
    have := a q hq
    unfold Ins at this
    exact dbl_in (hasB_iff.2 (by omega))
  · exact ⟨by simp, fun r hr => by simp at hr⟩
  · obtain ⟨jn, K⟩ := S.rr
    have hfew := K.wrap.few
    obtain ⟨l1, l2⟩ := S.lists
    rw [S.res]
    refine ⟨by rw [List.length_map]; omega, fun r hr => ?_⟩
    obtain ⟨M, hM, rfl⟩ := List.mem_map.1 hr
    obtain ⟨m1, m2, _, m3⟩ := l2 M hM
    exact ringP_ok (_P0 := P0) (_l := l) L.h1 L.h2 K.row m3 m1 (by omega)
end Go.Proofs.Ytafanlbfbfbeoaa

/- impl.SmartRing. -/
namespace Go.Proofs.Ytafanlbfbfbeoaa
open Go.RowKit

/-- What is laid in memory for a ring that is clipped smartly. -/
def SmartQ (o lx ly hx hy : Int) (P0 : Int × Int) (l : List (Int × Int)) (qs : List (Value × List (Value × List (Int × Int)))) : Prop :=
  ∃ res, SmartR o lx ly hx hy P0 l res ∧ qs.map (fun x => x.2.map Prod.snd) = res.map fun r => [r]

theorem turn_or (o : Bool) : turnI o = 1 ∨ turnI o = -1 := by cases o <;> simp [turnI]

theorem smartQ_bd {o lx ly hx hy : Int} {P0 : Int × Int} {l : List (Int × Int)} {qs : List (Value × List (Value × List (Int × Int)))} (L : RingLaw lx ly hx hy P0 l) (h : SmartQ o lx ly hx hy P0 l qs) :
    qs.length ≤ 1000000 ∧ ∀ x ∈ qs, (∀ y ∈ x.2, y.2.length ≤ 100000000) ∧ x.2.length = 1 := by
  obtain ⟨res, hr, he⟩ := h
  obtain ⟨h1, h2⟩ := smartR_bd L hr
  have hl : qs.length = res.length := by have := congrArg List.length he; simpa using this
  refine ⟨by omega, fun x hx => ?_⟩
  have hm : x.2.map Prod.snd ∈ res.map fun r => [r] := by rw [← he]; exact List.mem_map.2 ⟨x, hx, rfl⟩
  obtain ⟨r, hr', e⟩ := List.mem_map.1 hm
  refine ⟨fun y hy => ?_, ?_⟩
  · have : y.2 ∈ x.2.map Prod.snd := List.mem_map.2 ⟨y, hy, rfl⟩
    rw [← e, List.mem_singleton] at this
    rw [this]
    exact h2 r hr'
  · have := congrArg List.length e
    simpa using this.symm

set_option maxRecDepth 100000 in
set_option maxHeartbeats 1000000 in
theorem implSmart_any {lx ly hx hy : Int} (o : Bool) {P0 : Int × Int} {l : List (Int × Int)} (L : RingLaw lx ly hx hy P0 l) (ao : Option Addr) (cap : Nat) (ps : List (Int × Int)) (hps : ps = P0 :: l) (B : Nat) (w : World) (h : w.ownsRow B 39 2 (.slice ao ps.length cap) ps.length (ps.flatMap ptE)) :
    Calls Try.prog 13 #[.agg #[.float .f64 (F lx), .float .f64 (F ly), .float .f64 (F hx), .float .f64 (F hy)], .slice ao ps.length cap, .bool o] w
      fun e w' => ∃ (v : Value) (qs : List (Value × List (Value × List (Int × Int)))), e = .returned v ∧ Hid (SmartQ (turnI o) lx ly hx hy P0 l qs) ∧ PolysAt w' w.heap.size 46 43 39 hE v qs ∧ Below w.heap.size w w' := by
  have hlp : ps.length ≤ 100000000 := by rw [hps]; have := L.len; omega
  have hsm := fun ao cap B W hr => smartRing_any (turn_or o) L ao cap ps hps B W hr
  have HL : Hid (RingLaw lx ly hx hy P0 l) := L
  clear hps L
  go_enter Try.func13, Try.ntmps13
  go_wp2_with fail
  refine (bound_any lx ly hx hy _).mono ?_
  rintro e w1 ⟨rfl, hb1⟩
  have ho1 := own_below (h.alloc (.cells #[.float .f64 (F lx), .float .f64 (F ly), .float .f64 (F hx), .float .f64 (F hy)] 41)) hb1 (Nat.le_refl _)
  have hB1 : Below w.heap.size w w1 := ((Below.refl _ _).alloc (Nat.le_refl _) _).trans (hb1.mono (by simp))
  clear hb1 h
  go_wp2_with fail
  refine (points_any ao cap ps B _ hlp ho1).mono ?_
  rintro e w2 ⟨ao2, cap2, rfl, ho2, hb2⟩
  have hB2 := hB1.trans (hb2.mono hB1.size)
  clear ho1 hb2
  go_wp2_with fail
  refine (turn_any o _).mono ?_
  rintro e w3 ⟨rfl, rfl⟩
  go_wp2_with fail
  refine (hsm ao2 cap2 _ _ ho2).mono ?_
  rintro e w4 ⟨v4, qs, rfl, HQ, hp4, hb4⟩
  have hB4 := hB2.trans (hb4.mono hB2.size)
  clear ho2 hb4 hsm
  go_wp2_with fail
  have hbd := smartQ_bd HL.out HQ.out
  refine (plainPolygonsH_any v4 qs _ _ (fun x hx => ⟨(hbd.2 x hx).1, by have := (hbd.2 x hx).2; omega⟩) (by have := hbd.1; omega) hp4).mono ?_
  rintro e w5 ⟨v5, ys, rfl, hys, hp5, hb5⟩
  have HY : Hid (SmartQ (turnI o) lx ly hx hy P0 l ys) := by
    obtain ⟨res, h1, h2⟩ := HQ.out
    exact ⟨res, h1, hys.trans h2⟩
  have hB5 := hB4.trans (hb5.mono hB4.size)
  have hp6 := hp5.mono hB4.size
  clear hp4 hb5 hp5 hys hbd
  go_wp2_with fail
  go_ret
  exact ⟨_, ys, rfl, HY, hp6, hB5⟩
end Go.Proofs.Ytafanlbfbfbeoaa

/- A polygon of one ring, clipped smartly. -/
namespace Go.Proofs.Ytafanlbfbfbeoaa
open Go.RowKit

/-- 'append(s, x...)', where x has no elements; two names of slice types. -/
theorem wpList_appendNoneT {P : Program} {ops : Array Oper} {rest : List Oper} {o : Oper} {a : Act} {Q : Exit → Act → World → Prop} (hgd : o.guard = none) (s x : Operand) (t tx : TypeId)
    (ho : o.op = .call { callee := .builtin .append, args := #[s, x], argTypes := #[t, tx] }) (e e' : TypeId) (htx : P.underlying tx = some (.slice e')) (i : TypeInfo) (ht : P.underlying t = some (.slice e)) (hi : P.info? e = some i) (w : World) (base ad : Option Addr) (n cap c : Nat) (hle : n ≤ cap)
    (hs : a.eval s = .slice base n cap) (hx : a.eval x = .slice ad 0 c) (h : wpList P ops Q rest (a.put o.dst (.slice base n cap)) w) : wpList P ops Q (o :: rest) a w := by
  refine wpList_plain hgd fun K hK => ?_
  unfold Oper.wp execOp
  simp only [ho, resolve, invoke, builtin, Sem.run_bind, Sem.run_pure, Result.andThen_ok, List.map_toArray, List.map_cons, List.map_nil, hs, hx, run_append_tx w t tx o.type e e' ht htx, append_none w t o.type e i ht hi base ad n cap c hle]
  exact hK _ _ h

theorem addr_zero (g : Nat) : (⟨g, 0, none⟩ : Addr).add 0 = ⟨g, 0, none⟩ := by unfold Addr.add; split <;> simp_all

/-- A polygon is laid where it lies. -/
theorem PolysAt.again {w : World} {B g cap : Nat} {x : Value × List (Value × List (Int × Int))} (h : PolysAt w B 86 74 69 hE (.slice (some ⟨g, 0, none⟩) 1 cap) [x]) : PolysAt (w.setCell ⟨g, 0, none⟩ x.1) B 86 74 69 hE (.slice (some ⟨g, 0, none⟩) 1 cap) [x] := by
  obtain ⟨ao, cap', hv, ho, hx⟩ := h
  injection hv with e1 e2 e3
  subst e1 e3
  obtain ⟨st1, st2⟩ := ho.stored 0 x.1
  have hpt : ∃ c : Array Value, w.heap[g]? = some (.cells c 86 (0, 0)) := own_block ho rfl
  refine ⟨_, _, rfl, st1, fun y hy => (hx y hy).same (same3_grown st2) (fun g' c hc e => ?_) fun f hf g' hg e => ?_⟩
  · injection e with e
    subst e
    obtain ⟨_, hc2⟩ := hpt
    rw [hc] at hc2; simp at hc2
  · injection e with e
    subst e
    obtain ⟨_, _, _, _, hr⟩ := hx y hy
    obtain ⟨_, c, hc⟩ := row_block' (hr f hf) _ hg
    obtain ⟨_, hc2⟩ := hpt
    rw [hc] at hc2; simp at hc2

set_option maxRecDepth 100000 in
set_option maxHeartbeats 2000000 in
theorem smartPoly_any {o lx ly hx hy : Int} (ho : o = 1 ∨ o = -1) {P0 : Int × Int} {l : List (Int × Int)} (L : RingLaw lx ly hx hy P0 l) (v rv : Value) (ps : List (Int × Int)) (hps : ps = P0 :: l) (B : Nat) (w : World) (h : RowsAt w B 74 69 ptE v [(rv, ps)]) :
    Calls Try.prog 37 #[.agg #[.float .f64 (F lx), .float .f64 (F ly), .float .f64 (F hx), .float .f64 (F hy)], v, .int .i8 o] w
      fun e w' => ∃ (v' : Value) (qs : List (Value × List (Value × List (Int × Int)))), e = .returned v' ∧ Hid (SmartQ o lx ly hx hy P0 l qs) ∧ PolysAt w' w.heap.size 86 74 69 hE v' qs ∧ Below w.heap.size w w' := by
  have hlen4 : 4 ≤ ps.length := by rw [hps]; exact L.len4
  have hlen : ps.length ≤ 1000 := by rw [hps]; have := L.len; omega
  have hn : ∀ p ∈ ps, Near p := by rw [hps]; exact L.near
  have hoc : ∀ i (h : i + 1 < ps.length), Octi ps[i] ps[i + 1] := by subst hps; exact L.octi
  have he : ps[ps.length - 1] = ps[0] := by subst hps; exact L.last
  have HPS : Hid (ps = P0 :: l) := hps
  obtain ⟨aoV, capV, hv, _, _⟩ := id h
  by_cases hin : ∀ p ∈ P0 :: l, Ins lx ly hx hy p
  · have hoff := L.off
    have HIN : Hid (∀ p ∈ P0 :: l, Ins lx ly hx hy p) := hin
    rw [← hps] at hin hoff
    have hhas : ∀ p ∈ ps, hasB lx ly hx hy p.1 p.2 = true := fun p hp => hasB_iff.2 (by have := hin p hp; unfold Ins at this; omega)
    have hR := line_inside (by omega) (by rw [hps]; exact ⟨octi_self _, L.oct⟩) hhas hoff
    have hin0 := hin ps[0] (List.getElem_mem _)
    have hclip := fun W hr => clipInside_any lx ly hx hy L.hl L.hh L.h1 L.h2 v rv ps B W hlen4 hlen hn hoc he hR hin0 hr
    have hd : RowsAt w 0 74 69 hE v [(rv, ps.map dblP)] := by
      obtain ⟨a, c, hv', ho', hr'⟩ := h
      refine ⟨a, c, hv', own_mono ho' (Nat.zero_le _), fun x hx => ?_⟩
      rw [List.mem_singleton.1 hx]
      obtain ⟨a2, c2, hv2, ho2⟩ := hr' (rv, ps) (List.mem_singleton_self _)
      refine ⟨a2, c2, ?_, ?_⟩
      · rw [List.length_map]; exact hv2
      · have := own_dbl hn ho2
        rw [List.length_map] at this ⊢; exact this
    simp only [List.length_cons, List.length_nil, Nat.zero_add] at hv
    subst hv
    clear hoc he hin hin0 hps hhas hoff hR hn
    go_enter Try.func37, Try.ntmps37
    go_wp2_with fail
    refine (hclip _ (h.alloc _)).mono ?_
    rintro e w1 ⟨ao1, cap1, ao2, cap2, rfl, hb1⟩
    have hB1 : Below w.heap.size w w1 := ((Below.refl _ _).alloc (Nat.le_refl _) _).trans (hb1.mono (by simp))
    have hd1 := hd.below hB1 (Nat.le_refl _)
    clear hclip hb1 h hd
    go_wp2_with fail
    go_ret
    have h1 := own_new w1 w.heap.size hB1.size 86 1 1 [.slice aoV 1 capV] rfl (by omega)
    exact ⟨_, [(.slice aoV 1 capV, [(rv, ps.map dblP)])], rfl, ⟨[(P0 :: l).map dblP], .inl ⟨HIN.out, rfl⟩, by rw [← HPS.out]; rfl⟩, ⟨_, 1, rfl, h1, fun x hx => by rw [List.mem_singleton.1 hx]; exact hd1.alloc _⟩, below_alloc hB1 _ (Nat.le_refl _)⟩
  · have hout : ∃ p ∈ P0 :: l, ¬ Ins lx ly hx hy p := Classical.byContradiction fun hc => hin fun p hp => Classical.byContradiction fun hp' => hc ⟨p, hp, hp'⟩
    clear hin
    simp only [List.length_cons, List.length_nil, Nat.zero_add] at hv
    subst hv
    by_cases hne : lineL true lx ly hx hy (P0 :: l) = []
    · have hclip := fun W hr => clipNone_any lx ly hx hy L.hl L.hh L.h1 L.h2 (.slice aoV 1 capV) rv ps B W hlen4 hlen hn hoc he (by rw [hps]; exact hne) hr
      have HR : Hid (SmartQ o lx ly hx hy P0 l []) := ⟨[], .inr (.inl ⟨hout, hne, rfl⟩), rfl⟩
      clear hoc he hn hout hne hps
      go_enter Try.func37, Try.ntmps37
      go_wp2_with fail
      refine (hclip _ (h.alloc _)).mono ?_
      rintro e w1 ⟨rfl, hb1⟩
      have hB1 : Below w.heap.size w w1 := ((Below.refl _ _).alloc (Nat.le_refl _) _).trans (hb1.mono (by simp))
      clear hclip hb1 h
      go_wp2_with fail
      go_ret
      exact ⟨_, [], rfl, HR, ⟨none, 0, rfl, World.ownsRow_nil _ _ _ _, fun x hx => by simp at hx⟩, hB1⟩
    · obtain ⟨jn, J, K⟩ := ring_rows L.hl L.hh L.h1 L.h2 L.l0 L.cl L.oct L.simp L.off L.crn L.len hne hout
      have hclip := fun W hr => clipRows_any lx ly hx hy L.hl L.hh L.h1 L.h2 (.slice aoV 1 capV) rv ps B W hlen4 hlen hn hoc he (lineL true lx ly hx hy (P0 :: l)) jn (by rw [hps]) K.ok hr
      rw [← K.eq] at hclip
      have hwrap := fun v xs B w hB hln hxs => wrapRows_any ho L hout K v xs B w hB hln hxs
      have hJ := K.wrap.pos
      have hJ2 := K.wrap.few
      have HL : Hid (RingLaw lx ly hx hy P0 l) := L
      obtain ⟨iq, hjq, hq0, hq1, hq2⟩ := info_parts Try.info74
      clear hoc he hn hout hne K hps L
      go_enter Try.func37, Try.ntmps37
      go_wp2_with fail
      have hbx := Blk.new w #[.float .f64 (F lx), .float .f64 (F ly), .float .f64 (F hx), .float .f64 (F hy)] 71
      refine (hclip _ (h.alloc _)).mono ?_
      rintro e w1 ⟨v1, xs, rfl, hxs, hln, hb1⟩
      have hB1 : Below w.heap.size w w1 := ((Below.refl _ _).alloc (Nat.le_refl _) _).trans (hb1.mono (by simp))
      have hbx1 := hbx.below hb1 hbx.lt
      have hsz := hb1.size
      simp only [World.size_alloc] at hsz hln
      have hc0 := hbx1.cell 0
      have hc1 := hbx1.cell 1
      have hc2 := hbx1.cell 2
      have hc3 := hbx1.cell 3
      obtain ⟨aoR, capR, rfl, _, _⟩ := hln.rows
      obtain ⟨n, hn⟩ : ∃ n, n = xs.length := ⟨_, rfl⟩
      have hnJ : n = J.length := by rw [hn, ← hxs, List.length_map]
      rw [← hn] at hln ⊢
      have hnz : ((n : Int) == 0) = false := by simp; omega
      have HLN : Hid (Lines w1 (w.heap.size + 1) (.slice aoR n capR) xs) := hln
      have HXS : Hid (xs.map Prod.snd = J) := hxs
      clear hclip hb1 h hbx hbx1 hln hxs hn hnJ hJ hJ2
      go_wp2_with fail
      refine (hwrap _ xs _ _ hsz HLN.out HXS.out).mono ?_
      rintro e w2 ⟨rv2, qs, rfl, HR, hp, hb2⟩
      have hB2 := hB1.trans (hb2.mono (by omega))
      have HP : Hid (PolysAt w2 w.heap.size 86 74 69 hE rv2 qs) := hp.mono (by omega)
      have HQ : Hid (SmartQ o lx ly hx hy P0 l qs) := HR.out
      have hbd := smartQ_bd HL.out HQ.out
      clear hwrap hp hb2 HLN HXS HR hc0 hc1 hc2 hc3
      obtain ⟨aoP, capP, gP, rfl, hgP, hcP⟩ := HP.out.read
      obtain ⟨nq, hnq⟩ : ∃ nq, nq = qs.length := ⟨_, rfl⟩
      have hnqb : nq ≤ 1000000 := by rw [hnq]; exact hbd.1
      have HNQ : Hid (nq = qs.length) := hnq
      rw [← hnq] at HP hgP ⊢
      by_cases hq1' : nq = 1
      · subst hq1'
        obtain ⟨x, rfl⟩ : ∃ x, qs = [x] := by
          cases qs with
          | nil => simp at hnq
          | cons x t =>
            cases t with
            | nil => exact ⟨x, rfl⟩
            | cons y t => simp at hnq
        obtain ⟨rfl, hgl, hgb⟩ := hgP (by omega)
        obtain ⟨a2, c2, hcc, hrr⟩ := hcP 0 (by simp)
        have hx1 : x.1 = .slice a2 x.2.length c2 := by
          obtain ⟨_, _, hv', ho', _⟩ := HP.out
          injection hv' with e1 e2 e3
          subst e1
          have := ho'.cells rfl 0 x.1 (by simp)
          have e := addr_zero gP
          rw [e, hcc] at this
          simpa using this.symm
        have hx2 : x.2.length = 1 := (hbd.2 x (List.mem_singleton_self _)).2
        have hcc : w2.cell? ⟨gP, 0, none⟩ = some (.slice a2 1 c2) := by rw [← hx2]; simpa using hcc
        rw [hx2] at hx1
        have hle : 1 ≤ c2 := by
          obtain ⟨_, _, hv', ho', _⟩ := hrr
          simp only [List.getElem_cons_zero] at hv' ho'
          injection hv' with e1 e2 e3
          subst e1 e3
          rw [hx2] at ho'
          exact own_cap ho'
        have hfz : w2.frozen? ⟨gP, 0, none⟩ = false := by
          obtain ⟨_, _, hv', ho', _⟩ := HP.out
          injection hv' with e1 e2 e3
          subst e1
          exact ho'.frozenAt 0
        have HF : Hid (PolysAt (w2.setCell ⟨gP, 0, none⟩ (.slice a2 1 c2)) w.heap.size 86 74 69 hE (.slice (some ⟨gP, 0, none⟩) 1 capP) [x]) := by rw [← hx1]; exact HP.out.again
        have hB3 : Below w.heap.size w (w2.setCell ⟨gP, 0, none⟩ (.slice a2 1 c2)) := hB2.setCell hgb _
        clear hcP hgP hrr hx1 hbd hnq
        go_wp2_with (at_builtin; refine wpList_appendNoneT rfl _ _ 86 85 rfl 74 74 Try.underlying85 iq Try.underlying86 hjq _ a2 none 1 c2 0 hle rfl rfl ?_)
        go_wp2_with fail
        go_ret
        exact ⟨_, [x], rfl, HQ, HF.out, hB3⟩
      · have hz : ((nq : Int) == 1) = false := by simp; omega
        clear hcP hgP hbd hnq
        go_wp2_with fail
        go_loopw [9, 11, 45] (fun v9 _ v45 wr => wr = w2 ∧ v9 = .slice aoP nq capP ∧ v45 = .int .i64 0) (fun _ _ _ _ => 0)
        case atStart => exact ⟨rfl, rfl, rfl⟩
        case round =>
          obtain ⟨rfl, rfl, rfl⟩ := hrel
          go_wp2_with fail
          go_ret
          exact ⟨_, qs, rfl, HQ, HP.out, hB2⟩

set_option maxRecDepth 100000 in
set_option maxHeartbeats 1000000 in
theorem implSmartPoly_any {lx ly hx hy : Int} (o : Bool) {P0 : Int × Int} {l : List (Int × Int)} (L : RingLaw lx ly hx hy P0 l) (v rv : Value) (ps : List (Int × Int)) (hps : ps = P0 :: l) (B : Nat) (w : World) (h : RowsAt w B 43 39 ptE v [(rv, ps)]) :
    Calls Try.prog 24 #[.agg #[.float .f64 (F lx), .float .f64 (F ly), .float .f64 (F hx), .float .f64 (F hy)], v, .bool o] w
      fun e w' => ∃ (v : Value) (qs : List (Value × List (Value × List (Int × Int)))), e = .returned v ∧ Hid (SmartQ (turnI o) lx ly hx hy P0 l qs) ∧ PolysAt w' w.heap.size 46 43 39 hE v qs ∧ Below w.heap.size w w' := by
  have hlp : ps.length ≤ 100000000 := by rw [hps]; have := L.len; omega
  have hsm := fun v rv B W hr => smartPoly_any (turn_or o) L v rv ps hps B W hr
  have HL : Hid (RingLaw lx ly hx hy P0 l) := L
  clear hps L
  go_enter Try.func24, Try.ntmps24
  go_wp2_with fail
  refine (bound_any lx ly hx hy _).mono ?_
  rintro e w1 ⟨rfl, hb1⟩
  have ho1 := (h.alloc (.cells #[.float .f64 (F lx), .float .f64 (F ly), .float .f64 (F hx), .float .f64 (F hy)] 41)).below hb1 (Nat.le_refl _)
  have hB1 : Below w.heap.size w w1 := ((Below.refl _ _).alloc (Nat.le_refl _) _).trans (hb1.mono (by simp))
  clear hb1 h
  go_wp2_with fail
  refine (polyIn_any v _ B _ (fun x hx => by rw [List.mem_singleton.1 hx]; exact hlp) (by simp) ho1).mono ?_
  rintro e w2 ⟨v2, ys, rfl, hys, ho2, hb2, _⟩
  have hB2 := hB1.trans (hb2.mono hB1.size)
  obtain ⟨r2, rfl⟩ := one_row hys
  clear ho1 hb2 hys
  go_wp2_with fail
  refine (turn_any o _).mono ?_
  rintro e w3 ⟨rfl, rfl⟩
  go_wp2_with fail
  refine (hsm v2 r2 _ _ ho2).mono ?_
  rintro e w4 ⟨v4, qs, rfl, HQ, hp4, hb4⟩
  have hB4 := hB2.trans (hb4.mono hB2.size)
  clear ho2 hb4 hsm
  go_wp2_with fail
  have hbd := smartQ_bd HL.out HQ.out
  refine (plainPolygonsH_any v4 qs _ _ (fun x hx => ⟨(hbd.2 x hx).1, by have := (hbd.2 x hx).2; omega⟩) (by have := hbd.1; omega) hp4).mono ?_
  rintro e w5 ⟨v5, ys, rfl, hys, hp5, hb5⟩
  have HY : Hid (SmartQ (turnI o) lx ly hx hy P0 l ys) := by
    obtain ⟨res, h1, h2⟩ := HQ.out
    exact ⟨res, h1, hys.trans h2⟩
  have hB5 := hB4.trans (hb5.mono hB4.size)
  have hp6 := hp5.mono hB4.size
  clear hp4 hb5 hp5 hys hbd
  go_wp2_with fail
  go_ret
  exact ⟨_, ys, rfl, HY, hp6, hB5⟩
end Go.Proofs.Ytafanlbfbfbeoaa
