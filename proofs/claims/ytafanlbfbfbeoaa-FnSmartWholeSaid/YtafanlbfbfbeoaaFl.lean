/- Floating point numbers that are whole multiples of a power of two, exactly: what the operations on them give. -/
import Derived.Laws.FloatArith
namespace Go.Proofs.Ytafanlbfbfbeoaa
open Ieee

theorem log2_mul_pow (n k : Nat) (h : n ≠ 0) : (n * 2 ^ k).log2 = n.log2 + k := by
  induction k with
  | zero => simp
  | succ k ih =>
    have hp : n * 2 ^ k ≠ 0 := Nat.mul_ne_zero h (by have := Nat.two_pow_pos k; omega)
    rw [Nat.pow_succ, ← Nat.mul_assoc, Nat.mul_comm _ 2, Nat.log2_two_mul hp, ih]; omega

theorem cut_exact (way : Toward) (hw : way = .even ∨ way = .zero) (neg : Bool) (n d : Nat) : way.cut neg (n * 2 ^ d) d = n := by
  have hp := Nat.two_pow_pos d
  by_cases h0 : n = 0
  · subst h0
    rcases hw with rfl | rfl <;> simp [Toward.cut]
  · have hl : min d ((n * 2 ^ d).log2 + 2) = d := by rw [log2_mul_pow n d h0]; omega
    have hg : (1 : Nat) <<< d = 2 ^ d := by rw [Nat.shiftLeft_eq]; omega
    have hd : n * 2 ^ d / 2 ^ d = n := Nat.mul_div_cancel n hp
    have hm : n * 2 ^ d % 2 ^ d = 0 := Nat.mul_mod_left n (2 ^ d)
    rcases hw with rfl | rfl
    · simp only [Toward.cut, hl, hg, hd, hm, Nat.mul_zero, Nat.not_lt_zero, decide_false, Bool.false_or]
      have : ((2 ^ d == 0) = false) := by simp
      simp [this]
    · simp [Toward.cut, hl, hg, hd]

/-- The significand of n, moved up to 53 digits. -/
def upSig (n : Nat) : Nat := n * 2 ^ (52 - n.log2)

theorem log2_le_52 {n : Nat} (h0 : n ≠ 0) (h : n < 2 ^ 53) : n.log2 ≤ 52 := by
  have := (Nat.log2_lt h0).2 h
  omega

theorem upSig_bounds {n : Nat} (h0 : n ≠ 0) (h : n < 2 ^ 53) : 2 ^ 52 ≤ upSig n ∧ upSig n < 2 ^ 53 := by
  have hl := log2_le_52 h0 h
  have h1 := Nat.log2_self_le h0
  have h2 := @Nat.lt_log2_self n
  unfold upSig
  constructor
  · calc 2 ^ 52 = 2 ^ (n.log2 + (52 - n.log2)) := by congr 1; omega
      _ = 2 ^ n.log2 * 2 ^ (52 - n.log2) := Nat.pow_add ..
      _ ≤ n * 2 ^ (52 - n.log2) := Nat.mul_le_mul_right _ h1
  · calc n * 2 ^ (52 - n.log2) < 2 ^ (n.log2 + 1) * 2 ^ (52 - n.log2) := Nat.mul_lt_mul_of_pos_right h2 (Nat.two_pow_pos _)
      _ = 2 ^ (n.log2 + 1 + (52 - n.log2)) := (Nat.pow_add ..).symm
      _ = 2 ^ 53 := by congr 1; omega

theorem rung_le (x Z : Nat) (hx : x ≤ 1074) (hZ : Z < 2 ^ 53) : x * 2 ^ 52 + Z ≤ 2047 * 2 ^ 52 := by
  have h1 : x * 2 ^ 52 ≤ 1074 * 2 ^ 52 := Nat.mul_le_mul_right _ hx
  have h2 : 2 ^ 53 ≤ 2 * 2 ^ 52 := by decide
  have h3 : 1074 * 2 ^ 52 + 2 * 2 ^ 52 ≤ 2047 * 2 ^ 52 := by decide
  exact Nat.le_trans (Nat.add_le_add h1 (Nat.le_trans (Nat.le_of_lt hZ) h2)) h3

theorem nearest_exact (neg : Bool) (n k : Nat) (p : Int) (h0 : n ≠ 0) (h : n < 2 ^ 53) (hp : -1000 ≤ p) (hp' : p ≤ 0) :
    Ieee.double.nearest neg (n * 2 ^ k) (p - k) = Ieee.double.word neg ((n.log2 + p + 1022).toNat * 2 ^ 52 + upSig n) := by
  have hl := log2_le_52 h0 h
  have hb := upSig_bounds h0 h
  have hm : n * 2 ^ k ≠ 0 := Nat.mul_ne_zero h0 (by have := Nat.two_pow_pos k; omega)
  have hlast : max (p - k + ((n * 2 ^ k).log2 : Nat) - (52 : Nat)) (-1074) = p + n.log2 - 52 := by
    rw [log2_mul_pow n k h0]; omega
  have hkept : Toward.even.cut neg ((n * 2 ^ k) <<< (p - k - (p + n.log2 - 52)).toNat) ((p + n.log2 - 52) - (p - k)).toNat = upSig n := by
    by_cases hk : k ≤ 52 - n.log2
    · have e1 : (p - k - (p + n.log2 - 52)).toNat = 52 - n.log2 - k := by omega
      have e2 : ((p + n.log2 - 52) - (p - k)).toNat = 0 := by omega
      have e3 : (n * 2 ^ k) <<< (52 - n.log2 - k) = upSig n * 2 ^ 0 := by
        rw [Nat.shiftLeft_eq, Nat.mul_assoc, ← Nat.pow_add]; unfold upSig
        rw [show k + (52 - n.log2 - k) = 52 - n.log2 from by omega]; simp
      rw [e1, e2, e3]; exact cut_exact _ (.inl rfl) _ _ _
    · have e1 : (p - k - (p + n.log2 - 52)).toNat = 0 := by omega
      have e2 : ((p + n.log2 - 52) - (p - k)).toNat = k - (52 - n.log2) := by omega
      have e3 : (n * 2 ^ k) <<< 0 = upSig n * 2 ^ (k - (52 - n.log2)) := by
        rw [Nat.shiftLeft_eq]; unfold upSig
        rw [Nat.mul_assoc n (2 ^ (52 - n.log2)), ← Nat.pow_add, show 52 - n.log2 + (k - (52 - n.log2)) = k from by omega]; simp
      rw [e1, e2, e3]; exact cut_exact _ (.inl rfl) _ _ _
  have hlp : Ieee.double.leastPlace = -1074 := by decide
  have hfb : Ieee.double.fractionBits = 52 := rfl
  have hbin : Ieee.double.binade = 2 ^ 52 := rfl
  have hinf : Ieee.double.infRung = 2047 * 2 ^ 52 := by decide
  unfold Format.nearest
  rw [if_neg hm]
  simp only [hlp, hfb, hlast, hkept, hbin, hinf]
  have e4 : (p + n.log2 - 52 - -1074).toNat = (n.log2 + p + 1022).toNat := by omega
  have e6 : (n.log2 + p + 1022).toNat ≤ 1074 := by omega
  have e5 : min ((n.log2 + p + 1022).toNat * 2 ^ 52 + upSig n) (2047 * 2 ^ 52) = (n.log2 + p + 1022).toNat * 2 ^ 52 + upSig n := by
    refine Nat.min_eq_left (rung_le _ _ e6 ?_)
    exact hb.2
  rw [e4, e5]

theorem read_word_aux (E Z C : Nat) (h1 : C ≤ Z) (h2 : Z < 2 * C) : (E * C + Z) / C = E + 1 ∧ (E * C + Z) % C = Z - C := by
  have hC : 0 < C := by omega
  have e : E * C + Z = (Z - C) + (E + 1) * C := by rw [Nat.add_mul]; omega
  rw [e]
  refine ⟨?_, ?_⟩
  · rw [Nat.add_mul_div_right _ _ hC, Nat.div_eq_of_lt (by omega)]; omega
  · rw [Nat.add_mul_mod_self_right, Nat.mod_eq_of_lt (by omega)]

theorem word_parts (neg : Bool) (R S : Nat) (hR : R < S) : (if neg then S + R else R) / S % 2 = neg.toNat ∧ (if neg then S + R else R) % S = R := by
  have hS : 0 < S := by omega
  cases neg
  · simp [Nat.div_eq_of_lt hR, Nat.mod_eq_of_lt hR]
  · simp [Nat.div_eq_of_lt hR, Nat.mod_eq_of_lt hR, Nat.add_div_left _ hS]

theorem read_word (neg : Bool) (E Z : Nat) (hE : E ≤ 2000) (h1 : 2 ^ 52 ≤ Z) (h2 : Z < 2 ^ 53) :
    Ieee.double.read (Ieee.double.word neg (E * 2 ^ 52 + Z)) = .number neg Z (-1074 + E) := by
  have hlp : Ieee.double.leastPlace = -1074 := by decide
  have hbin : Ieee.double.binade = 2 ^ 52 := rfl
  have hinf : Ieee.double.infRung = 2047 * 2 ^ 52 := by decide
  have hsw : Ieee.double.signWeight = 2 ^ 63 := rfl
  have h53 : 2 ^ 53 = 2 * 2 ^ 52 := by decide
  have hle : E * 2 ^ 52 ≤ 2000 * 2 ^ 52 := Nat.mul_le_mul_right _ hE
  have hlt2 : E * 2 ^ 52 + Z < 2047 * 2 ^ 52 := by
    have h3 : 2000 * 2 ^ 52 + 2 * 2 ^ 52 < 2047 * 2 ^ 52 := by decide
    rw [h53] at h2
    exact Nat.lt_trans (Nat.add_lt_add_of_le_of_lt hle h2) h3
  have hr : E * 2 ^ 52 + Z < 2 ^ 63 := Nat.lt_trans hlt2 (by decide)
  have hge : ¬ E * 2 ^ 52 + Z < 2 ^ 52 := Nat.not_lt.2 (Nat.le_trans h1 (Nat.le_add_left _ _))
  obtain ⟨hneg, hrung⟩ := word_parts neg _ _ hr
  obtain ⟨hdiv, hmod⟩ := read_word_aux E Z (2 ^ 52) h1 (by rw [← h53]; exact h2)
  unfold Format.read Format.word
  simp only [hlp, hbin, hinf, hsw, hneg, hrung, hdiv, hmod, hge, hlt2, if_false, if_true]
  have e1 : (neg.toNat == 1) = neg := by cases neg <;> rfl
  rw [e1, Nat.add_sub_of_le h1, Nat.add_sub_cancel]

/-- The word that stands for n / 2^s. -/
def Fs (s : Nat) (n : Int) : Nat := Ieee.double.nearest (decide (n < 0)) n.natAbs (-(s : Int))

/-- What a datum stands for: n / 2^s. -/
def Rep (s : Nat) (d : Datum) (n : Int) : Prop :=
  ∃ g m i, d = .number g m i ∧ i ≤ -(s : Int) ∧ ∀ b : Int, b ≤ i → signed g m (i - b).toNat = n * 2 ^ (-(s : Int) - b).toNat

/-- The same, its zero without a sign. -/
def RepP (s : Nat) (d : Datum) (n : Int) : Prop := Rep s d n ∧ (n = 0 → d.neg = false)

theorem signed_eq (g : Bool) (m u : Nat) : signed g m u = (if g then -(m : Int) else m) * 2 ^ u := by
  unfold signed
  rw [Nat.shiftLeft_eq]
  cases g <;> simp [Int.natCast_mul, Int.natCast_pow, Int.neg_mul]

theorem rep_iff (s : Nat) (g : Bool) (m : Nat) (i : Int) (n : Int) (hi : i ≤ -(s : Int)) (h : (if g then -(m : Int) else m) = n * 2 ^ (-(s : Int) - i).toNat) : Rep s (.number g m i) n := by
  refine ⟨g, m, i, rfl, hi, fun b hb => ?_⟩
  rw [signed_eq, h, Int.mul_assoc, ← Int.pow_add]
  congr 2; omega

theorem rep_val {s : Nat} {g : Bool} {m : Nat} {i : Int} {n : Int} (h : Rep s (.number g m i) n) : i ≤ -(s : Int) ∧ (if g then -(m : Int) else m) = n * 2 ^ (-(s : Int) - i).toNat := by
  obtain ⟨g', m', i', e, hi, hv⟩ := h
  cases e
  refine ⟨hi, ?_⟩
  have := hv i (Int.le_refl _)
  rw [signed_eq] at this
  simpa using this

theorem pow_pos' (k : Nat) : (0 : Int) < 2 ^ k := Int.pow_pos (by decide)

theorem sign_of_mul {a n : Int} {k : Nat} (h : a = n * 2 ^ k) : (a < 0 ↔ n < 0) ∧ (a = 0 ↔ n = 0) ∧ a.natAbs = n.natAbs * 2 ^ k := by
  have hp := pow_pos' k
  subst h
  refine ⟨?_, ?_, ?_⟩
  · constructor
    · intro h; exact Int.not_le.1 fun hn => by have := Int.mul_nonneg hn (Int.le_of_lt hp); omega
    · intro h; exact Int.mul_neg_of_neg_of_pos h hp
  · constructor
    · intro h; rcases Int.mul_eq_zero.1 h with h | h; exact h; omega
    · intro h; subst h; simp
  · rw [Int.natAbs_mul, Int.natAbs_pow]; rfl

theorem write_rep {s : Nat} {d : Datum} {n : Int} (hs : s ≤ 1000) (h : RepP s d n) (hn : n.natAbs < 2 ^ 53) : Ieee.double.write d = Fs s n := by
  obtain ⟨⟨g, m, i, rfl, hi, hv⟩, h0⟩ := h
  have hval := rep_val (s := s) (n := n) ⟨g, m, i, rfl, hi, hv⟩
  obtain ⟨sg, sz, sa⟩ := sign_of_mul hval.2
  have hmabs : m = n.natAbs * 2 ^ (-(s : Int) - i).toNat := by rw [← sa]; cases g <;> simp
  by_cases hz : n = 0
  · subst hz
    have hm : m = 0 := by simpa using hmabs
    have hg : g = false := h0 rfl
    subst hm; subst hg
    simp [Format.write, Fs, Format.nearest]
  · have hg : g = decide (n < 0) := by
      have hm0 : m ≠ 0 := by
        rw [hmabs]; exact Nat.mul_ne_zero (by omega) (by have := Nat.two_pow_pos (-(s : Int) - i).toNat; omega)
      cases g
      · simp at sg ⊢; omega
      · simp at sg ⊢; omega
    unfold Fs Format.write
    simp only
    rw [hmabs, hg]
    have e1 : i = -(s : Int) - ((-(s : Int) - i).toNat : Nat) := by omega
    have n0 : n.natAbs ≠ 0 := by omega
    have a := nearest_exact (decide (n < 0)) n.natAbs (-(s : Int) - i).toNat (-(s : Int)) n0 hn (by omega) (by omega)
    have b := nearest_exact (decide (n < 0)) n.natAbs 0 (-(s : Int)) n0 hn (by omega) (by omega)
    rw [← e1] at a
    simp only [Nat.pow_zero, Nat.mul_one, Int.natCast_zero, Int.sub_zero] at b
    rw [a, b]

theorem read_rep (s : Nat) (n : Int) (hs : s ≤ 1000) (hn : n.natAbs < 2 ^ 53) : RepP s (Ieee.double.read (Fs s n)) n := by
  by_cases hz : n = 0
  · subst hz
    have : Ieee.double.read (Fs s 0) = .number false 0 (-1074) := by
      have : Fs s 0 = 0 := by simp [Fs, Format.nearest, Format.word]
      rw [this]; decide
    rw [this]
    exact ⟨rep_iff _ _ _ _ _ (by omega) (by simp), fun _ => rfl⟩
  · have n0 : n.natAbs ≠ 0 := by omega
    have b := nearest_exact (decide (n < 0)) n.natAbs 0 (-(s : Int)) n0 hn (by omega) (by omega)
    simp only [Nat.pow_zero, Nat.mul_one, Int.natCast_zero, Int.sub_zero] at b
    have hb := upSig_bounds n0 hn
    have hl := log2_le_52 n0 hn
    have e : Fs s n = Ieee.double.word (decide (n < 0)) ((n.natAbs.log2 + -(s : Int) + 1022).toNat * 2 ^ 52 + upSig n.natAbs) := b
    rw [e, read_word _ _ _ (by omega) hb.1 hb.2]
    refine ⟨rep_iff _ _ _ _ _ (by omega) ?_, fun h => absurd h hz⟩
    have e2 : (-(s : Int) - (-1074 + ((n.natAbs.log2 + -(s : Int) + 1022).toNat : Nat))).toNat = 52 - n.natAbs.log2 := by omega
    rw [e2]
    unfold upSig
    by_cases hlt : n < 0
    · simp only [hlt, decide_true, if_true, Int.natCast_mul, Int.natCast_pow]
      rw [← Int.neg_mul]; congr 1; omega
    · simp only [hlt, decide_false, Int.natCast_mul, Int.natCast_pow, Bool.false_eq_true, if_false]
      congr 1; omega

theorem rep_opposite {s : Nat} {d : Datum} {n : Int} (h : Rep s d n) : Rep s d.opposite (-n) := by
  obtain ⟨g, m, i, rfl, hi, hv⟩ := h
  have hval := rep_val (s := s) (n := n) ⟨g, m, i, rfl, hi, hv⟩
  refine rep_iff _ _ _ _ _ hi ?_
  rw [Int.neg_mul, ← hval.2]
  cases g <;> simp

theorem rep_sum {s : Nat} {d e : Datum} {a b : Int} (h : RepP s d a) (h' : Rep s e b) : ∃ r, d.sum e = some r ∧ RepP s r (a + b) := by
  obtain ⟨⟨g, m, i, rfl, hi, hv⟩, h0⟩ := h
  obtain ⟨g', m', i', rfl, hi', hv'⟩ := h'
  have e1 := hv (min i i') (by omega)
  have e2 := hv' (min i i') (by omega)
  have etot : signed g m (i - min i i').toNat + signed g' m' (i' - min i i').toNat = (a + b) * 2 ^ (-(s : Int) - min i i').toNat := by
    rw [e1, e2, Int.add_mul]
  obtain ⟨sg, sz, sa⟩ := sign_of_mul etot
  refine ⟨_, rfl, rep_iff _ _ _ _ _ (by omega) ?_, fun hz => ?_⟩
  · rw [← etot]
    generalize signed g m (i - min i i').toNat + signed g' m' (i' - min i i').toNat = T at *
    by_cases hT : T = 0
    · simp [hT]
    · simp only [hT, if_false]
      by_cases hlt : T < 0 <;> simp [hlt] <;> omega
  · have hT := sz.2 hz
    simp only [Datum.neg]
    rw [if_pos hT]
    by_cases ha : a = 0
    · have := h0 ha; simp [Datum.neg] at this; simp [this]
    · have hb : b = -a := by omega
      have va := rep_val (s := s) (n := a) ⟨g, m, i, rfl, hi, hv⟩
      have vb := rep_val (s := s) (n := b) ⟨g', m', i', rfl, hi', hv'⟩
      obtain ⟨s1, z1, _⟩ := sign_of_mul va.2
      obtain ⟨s2, z2, _⟩ := sign_of_mul vb.2
      cases g <;> cases g' <;> simp at s1 s2 z1 z2 ⊢ <;> omega

theorem rep_product {s s' : Nat} {d e : Datum} {a b : Int} (h : Rep s d a) (h' : Rep s' e b) : ∃ r, d.product e = some r ∧ Rep (s + s') r (a * b) := by
  obtain ⟨g, m, i, rfl, hi, hv⟩ := h
  obtain ⟨g', m', i', rfl, hi', hv'⟩ := h'
  have va := rep_val (s := s) (n := a) ⟨g, m, i, rfl, hi, hv⟩
  have vb := rep_val (s := s') (n := b) ⟨g', m', i', rfl, hi', hv'⟩
  refine ⟨_, rfl, rep_iff _ _ _ _ _ (by omega) ?_⟩
  have e1 : (-((s + s' : Nat) : Int) - (i + i')).toNat = (-(s : Int) - i).toNat + (-(s' : Int) - i').toNat := by omega
  rw [e1, Int.pow_add]
  have e2 : (if (g ^^ g') = true then -((m * m' : Nat) : Int) else ((m * m' : Nat) : Int)) = (if g then -(m : Int) else m) * (if g' then -(m' : Int) else m') := by
    cases g <;> cases g' <;> simp [Int.natCast_mul, Int.neg_mul, Int.mul_neg]
  rw [e2, va.2, vb.2]
  simp only [Int.mul_assoc, Int.mul_left_comm]

theorem rep_quotient {s s' : Nat} {d e : Datum} {q b : Int} (h : Rep (s + s') d (q * b)) (h' : Rep s' e b) (hb0 : b ≠ 0) (hq : (q * b).natAbs < 2 ^ 53) (hb : b.natAbs < 2 ^ 53) :
    ∃ r, d.quotient 54 e = some r ∧ Rep s r q := by
  obtain ⟨g, m, i, rfl, hi, hv⟩ := h
  obtain ⟨g', m', i', rfl, hi', hv'⟩ := h'
  have va := rep_val (s := s + s') (n := q * b) ⟨g, m, i, rfl, hi, hv⟩
  have vb := rep_val (s := s') (n := b) ⟨g', m', i', rfl, hi', hv'⟩
  obtain ⟨sa, za, aa⟩ := sign_of_mul va.2
  obtain ⟨sb, zb, ab⟩ := sign_of_mul vb.2
  have hm : m = (q * b).natAbs * 2 ^ (-((s + s' : Nat) : Int) - i).toNat := by rw [← aa]; cases g <;> simp
  have hm' : m' = b.natAbs * 2 ^ (-(s' : Int) - i').toNat := by rw [← ab]; cases g' <;> simp
  have bn0 : b.natAbs ≠ 0 := by omega
  have hm'0 : m' ≠ 0 := by rw [hm']; exact Nat.mul_ne_zero bn0 (by have := Nat.two_pow_pos (-(s' : Int) - i').toNat; omega)
  have hlb := log2_le_52 bn0 hb
  have hlm' : m'.log2 = b.natAbs.log2 + (-(s' : Int) - i').toNat := by rw [hm', log2_mul_pow _ _ bn0]
  simp only [Datum.quotient, hm'0, if_false]
  refine ⟨_, rfl, ?_⟩
  by_cases hq0 : q = 0
  · subst hq0
    have hmz : m = 0 := by simpa using hm
    subst hmz
    have l0 : Nat.log2 0 = 0 := by decide
    refine rep_iff _ _ _ _ _ (by rw [l0, hlm']; omega) ?_
    simp
  · have qn0 : q.natAbs ≠ 0 := by omega
    have qb0 : (q * b).natAbs ≠ 0 := by rw [Int.natAbs_mul]; exact Nat.mul_ne_zero qn0 bn0
    have hlq := log2_le_52 qb0 hq
    have hlm : m.log2 = (q * b).natAbs.log2 + (-((s + s' : Nat) : Int) - i).toNat := by rw [hm, log2_mul_pow _ _ qb0]
    generalize hM : 54 + m'.log2 - m.log2 = more
    have hmore : (-(s' : Int) - i').toNat ≤ (-((s + s' : Nat) : Int) - i).toNat + more := by omega
    have hdvd : m <<< more = (q.natAbs * 2 ^ ((-((s + s' : Nat) : Int) - i).toNat + more - (-(s' : Int) - i').toNat)) * m' := by
      rw [Nat.shiftLeft_eq, hm, hm', Int.natAbs_mul, Nat.mul_assoc, ← Nat.pow_add]
      have : 2 ^ ((-((s + s' : Nat) : Int) - i).toNat + more) = 2 ^ ((-((s + s' : Nat) : Int) - i).toNat + more - (-(s' : Int) - i').toNat) * 2 ^ (-(s' : Int) - i').toNat := by
        rw [← Nat.pow_add]; congr 1; omega
      rw [this]
      simp only [Nat.mul_assoc, Nat.mul_left_comm, Nat.mul_comm]
    have hdiv : m <<< more / m' = q.natAbs * 2 ^ ((-((s + s' : Nat) : Int) - i).toNat + more - (-(s' : Int) - i').toNat) := by
      rw [hdvd]; exact Nat.mul_div_cancel _ (by omega)
    have hmod : m <<< more % m' = 0 := by rw [hdvd]; exact Nat.mul_mod_left _ _
    rw [hdiv, hmod]
    refine rep_iff _ _ _ _ _ (by omega) ?_
    have e1 : (-(s : Int) - (i - i' - more - 1)).toNat = ((-((s + s' : Nat) : Int) - i).toNat + more - (-(s' : Int) - i').toNat) + 1 := by omega
    rw [e1, Int.pow_succ]
    generalize ((-((s + s' : Nat) : Int) - i).toNat + more - (-(s' : Int) - i').toNat) = k
    have hsg : (g ^^ g') = decide (q < 0) := by
      have hmn0 : m ≠ 0 := by rw [hm]; exact Nat.mul_ne_zero qb0 (by have := Nat.two_pow_pos (-((s + s' : Nat) : Int) - i).toNat; omega)
      have h1 : g = decide (q * b < 0) := by cases g <;> simp at sa ⊢ <;> omega
      have h2 : g' = decide (b < 0) := by cases g' <;> simp at sb ⊢ <;> omega
      rw [h1, h2]
      rcases Int.lt_or_gt_of_ne hq0 with hq' | hq' <;> rcases Int.lt_or_gt_of_ne hb0 with hb' | hb'
      · have := Int.mul_pos_of_neg_of_neg hq' hb'; simp [hq', hb']; omega
      · have := Int.mul_neg_of_neg_of_pos hq' hb'; simp [hq', this]; omega
      · have := Int.mul_neg_of_pos_of_neg hq' hb'; simp [hb', this]; omega
      · have h3 := Int.mul_pos hq' hb'; have h4 : ¬ q * b < 0 := by omega
        have h5 : ¬ b < 0 := by omega
        have h6 : ¬ q < 0 := by omega
        simp [h4, h5, h6]
    rw [hsg]
    have e3 : ((2 * (q.natAbs * 2 ^ k) + (0 != 0).toNat : Nat) : Int) = (q.natAbs : Int) * (2 ^ k * 2) := by
      simp [Int.natCast_mul, Int.natCast_pow]
      rw [Int.mul_comm 2, Int.mul_assoc]
    rw [e3]
    by_cases hlt : q < 0
    · simp only [hlt, decide_true, if_true]; rw [← Int.neg_mul]; congr 1; omega
    · simp only [hlt, decide_false, Bool.false_eq_true, if_false]; congr 1; omega

theorem rep_order {s : Nat} {d e : Datum} {a b : Int} (h : Rep s d a) (h' : Rep s e b) : d.order e = some (compare a b) := by
  obtain ⟨g, m, i, rfl, hi, hv⟩ := h
  obtain ⟨g', m', i', rfl, hi', hv'⟩ := h'
  simp only [Datum.order]
  rw [hv (min i i') (by omega), hv' (min i i') (by omega)]
  have hp := pow_pos' (-(s : Int) - min i i').toNat
  generalize (2 : Int) ^ (-(s : Int) - min i i').toNat = p at hp
  congr 1
  rcases Int.lt_trichotomy a b with hab | hab | hab
  · rw [Int.compare_eq_lt.2 hab, Int.compare_eq_lt.2 (Int.mul_lt_mul_of_pos_right hab hp)]
  · subst hab; rw [Int.compare_eq_eq.2 rfl, Int.compare_eq_eq.2 rfl]
  · rw [Int.compare_eq_gt.2 hab, Int.compare_eq_gt.2 (Int.mul_lt_mul_of_pos_right hab hp)]

theorem rep_toInt {d : Datum} {n : Int} (h : Rep 0 d n) : d.toInt .zero = some n := by
  obtain ⟨g, m, i, rfl, hi, hv⟩ := h
  have va := rep_val (s := 0) (n := n) ⟨g, m, i, rfl, hi, hv⟩
  obtain ⟨sa, za, aa⟩ := sign_of_mul va.2
  have hm : m = n.natAbs * 2 ^ (-i).toNat := by
    have : (-((0 : Nat) : Int) - i).toNat = (-i).toNat := by omega
    rw [this] at aa; rw [← aa]; cases g <;> simp
  have hi0 : i.toNat = 0 := by omega
  simp only [Datum.toInt, Datum.integral, hi0, Nat.shiftLeft_zero]
  rw [hm, cut_exact _ (.inr rfl)]
  have : signed g n.natAbs 0 = n := by
    rw [signed_eq]
    cases g <;> simp at sa za aa ⊢
    · omega
    · by_cases hn : n = 0
      · omega
      · have := sa.1 (by omega); omega
  rw [this]
end Go.Proofs.Ytafanlbfbfbeoaa
