/- What the proofs over smartclip lean on, part 1 of 48. -/
import Derived.Laws.FloatArith
import Derived.Test.YtafanlbfbfbeoaaProg
import Derived.WalkKit
import Derived.WalkSpells
import Derived.WalkLawsBesides
import Derived.Deep.AppendLies

/- Floating point numbers that are whole multiples of a power of two, exactly: what the operations on them give. -/
namespace Go.Proofs.Ytafanlbfbfbeoaa
open Ieee

theorem log2_mul_pow (n k : Nat) (h : n ≠ 0) : (n * 2 ^ k).log2 = n.log2 + k := by
  induction k with
  | zero => simp
  | succ k ih =>
    have hp : n * 2 ^ k ≠ 0 := Nat.mul_ne_zero h (by have := Nat.two_pow_pos k; omega)
    rw [Nat.pow_succ, ← Nat.mul_assoc, Nat.mul_comm _ 2, Nat.log2_two_mul hp, ih]; omega

theorem cut_exact (way : Toward) (hw : way = .even ∨ way = .zero) (neg : Bool) (n d : Nat) : way.cut neg (n * 2 ^ d) d = n := by
  have hp := Nat.two_pow_pos d
  by_cases h0 : n = 0
  · subst h0
    rcases hw with rfl | rfl <;> simp [Toward.cut]
  · have hl : min d ((n * 2 ^ d).log2 + 2) = d := by rw [log2_mul_pow n d h0]; omega
    have hg : (1 : Nat) <<< d = 2 ^ d := by rw [Nat.shiftLeft_eq]; omega
    have hd : n * 2 ^ d / 2 ^ d = n := Nat.mul_div_cancel n hp
    have hm : n * 2 ^ d % 2 ^ d = 0 := Nat.mul_mod_left n (2 ^ d)
    rcases hw with rfl | rfl
    · simp only [Toward.cut, hl, hg, hd, hm, Nat.mul_zero, Nat.not_lt_zero, decide_false, Bool.false_or]
      have : ((2 ^ d == 0) = false) := by simp
      simp [this]
    · simp [Toward.cut, hl, hg, hd]

/-- The significand of n, moved up to 53 digits. -/
def upSig (n : Nat) : Nat := n * 2 ^ (52 - n.log2)

theorem log2_le_52 {n : Nat} (h0 : n ≠ 0) (h : n < 2 ^ 53) : n.log2 ≤ 52 := by
  have := (Nat.log2_lt h0).2 h
  omega

theorem upSig_bounds {n : Nat} (h0 : n ≠ 0) (h : n < 2 ^ 53) : 2 ^ 52 ≤ upSig n ∧ upSig n < 2 ^ 53 := by
  have hl := log2_le_52 h0 h
  have h1 := Nat.log2_self_le h0
  have h2 := @Nat.lt_log2_self n
  unfold upSig
  constructor
  · calc 2 ^ 52 = 2 ^ (n.log2 + (52 - n.log2)) := by congr 1; omega
      _ = 2 ^ n.log2 * 2 ^ (52 - n.log2) := Nat.pow_add ..
      _ ≤ n * 2 ^ (52 - n.log2) := Nat.mul_le_mul_right _ h1
  · calc n * 2 ^ (52 - n.log2) < 2 ^ (n.log2 + 1) * 2 ^ (52 - n.log2) := Nat.mul_lt_mul_of_pos_right h2 (Nat.two_pow_pos _)
      _ = 2 ^ (n.log2 + 1 + (52 - n.log2)) := (Nat.pow_add ..).symm
      _ = 2 ^ 53 := by congr 1; omega

theorem rung_le (x Z : Nat) (hx : x ≤ 1074) (hZ : Z < 2 ^ 53) : x * 2 ^ 52 + Z ≤ 2047 * 2 ^ 52 := by
  have h1 : x * 2 ^ 52 ≤ 1074 * 2 ^ 52 := Nat.mul_le_mul_right _ hx
  have h2 : 2 ^ 53 ≤ 2 * 2 ^ 52 := by decide
  have h3 : 1074 * 2 ^ 52 + 2 * 2 ^ 52 ≤ 2047 * 2 ^ 52 := by decide
  exact Nat.le_trans (Nat.add_le_add h1 (Nat.le_trans (Nat.le_of_lt hZ) h2)) h3

theorem nearest_exact (neg : Bool) (n k : Nat) (p : Int) (h0 : n ≠ 0) (h : n < 2 ^ 53) (hp : -1000 ≤ p) (hp' : p ≤ 0) :
    Ieee.double.nearest neg (n * 2 ^ k) (p - k) = Ieee.double.word neg ((n.log2 + p + 1022).toNat * 2 ^ 52 + upSig n) := by
  have hl := log2_le_52 h0 h
  have hb := upSig_bounds h0 h
  have hm : n * 2 ^ k ≠ 0 := Nat.mul_ne_zero h0 (by have := Nat.two_pow_pos k; omega)
  have hlast : max (p - k + ((n * 2 ^ k).log2 : Nat) - (52 : Nat)) (-1074) = p + n.log2 - 52 := by
    rw [log2_mul_pow n k h0]; omega
  have hkept : Toward.even.cut neg ((n * 2 ^ k) <<< (p - k - (p + n.log2 - 52)).toNat) ((p + n.log2 - 52) - (p - k)).toNat = upSig n := by
    by_cases hk : k ≤ 52 - n.log2
    · have e1 : (p - k - (p + n.log2 - 52)).toNat = 52 - n.log2 - k := by omega
      have e2 : ((p + n.log2 - 52) - (p - k)).toNat = 0 := by omega
      have e3 : (n * 2 ^ k) <<< (52 - n.log2 - k) = upSig n * 2 ^ 0 := by
        rw [Nat.shiftLeft_eq, Nat.mul_assoc, ← Nat.pow_add]; unfold upSig
        rw [show k + (52 - n.log2 - k) = 52 - n.log2 from by omega]; simp
      rw [e1, e2, e3]; exact cut_exact _ (.inl rfl) _ _ _
    · have e1 : (p - k - (p + n.log2 - 52)).toNat = 0 := by omega
      have e2 : ((p + n.log2 - 52) - (p - k)).toNat = k - (52 - n.log2) := by omega
      have e3 : (n * 2 ^ k) <<< 0 = upSig n * 2 ^ (k - (52 - n.log2)) := by
        rw [Nat.shiftLeft_eq]; unfold upSig
        rw [Nat.mul_assoc n (2 ^ (52 - n.log2)), ← Nat.pow_add, show 52 - n.log2 + (k - (52 - n.log2)) = k from by omega]; simp
      rw [e1, e2, e3]; exact cut_exact _ (.inl rfl) _ _ _
  have hlp : Ieee.double.leastPlace = -1074 := by decide
  have hfb : Ieee.double.fractionBits = 52 := rfl
  have hbin : Ieee.double.binade = 2 ^ 52 := rfl
  have hinf : Ieee.double.infRung = 2047 * 2 ^ 52 := by decide
  unfold Format.nearest
  rw [if_neg hm]
  simp only [hlp, hfb, hlast, hkept, hbin, hinf]
  have e4 : (p + n.log2 - 52 - -1074).toNat = (n.log2 + p + 1022).toNat := by omega
  have e6 : (n.log2 + p + 1022).toNat ≤ 1074 := by omega
  have e5 : min ((n.log2 + p + 1022).toNat * 2 ^ 52 + upSig n) (2047 * 2 ^ 52) = (n.log2 + p + 1022).toNat * 2 ^ 52 + upSig n := by
    refine Nat.min_eq_left (rung_le _ _ e6 ?_)
    exact hb.2
  rw [e4, e5]

theorem read_word_aux (E Z C : Nat) (h1 : C ≤ Z) (h2 : Z < 2 * C) : (E * C + Z) / C = E + 1 ∧ (E * C + Z) % C = Z - C := by
  have hC : 0 < C := by omega
  have e : E * C + Z = (Z - C) + (E + 1) * C := by rw [Nat.add_mul]; omega
  rw [e]
  refine ⟨?_, ?_⟩
  · rw [Nat.add_mul_div_right _ _ hC, Nat.div_eq_of_lt (by omega)]; omega
  · rw [Nat.add_mul_mod_self_right, Nat.mod_eq_of_lt (by omega)]

theorem word_parts (neg : Bool) (R S : Nat) (hR : R < S) : (if neg then S + R else R) / S % 2 = neg.toNat ∧ (if neg then S + R else R) % S = R := by
  have hS : 0 < S := by omega
  cases neg
  · simp [Nat.div_eq_of_lt hR, Nat.mod_eq_of_lt hR]
  · simp [Nat.div_eq_of_lt hR, Nat.mod_eq_of_lt hR, Nat.add_div_left _ hS]

theorem read_word (neg : Bool) (E Z : Nat) (hE : E ≤ 2000) (h1 : 2 ^ 52 ≤ Z) (h2 : Z < 2 ^ 53) :
    Ieee.double.read (Ieee.double.word neg (E * 2 ^ 52 + Z)) = .number neg Z (-1074 + E) := by
  have hlp : Ieee.double.leastPlace = -1074 := by decide
  have hbin : Ieee.double.binade = 2 ^ 52 := rfl
  have hinf : Ieee.double.infRung = 2047 * 2 ^ 52 := by decide
  have hsw : Ieee.double.signWeight = 2 ^ 63 := rfl
  have h53 : 2 ^ 53 = 2 * 2 ^ 52 := by decide
  have hle : E * 2 ^ 52 ≤ 2000 * 2 ^ 52 := Nat.mul_le_mul_right _ hE
  have hlt2 : E * 2 ^ 52 + Z < 2047 * 2 ^ 52 := by
    have h3 : 2000 * 2 ^ 52 + 2 * 2 ^ 52 < 2047 * 2 ^ 52 := by decide
    rw [h53] at h2
    exact Nat.lt_trans (Nat.add_lt_add_of_le_of_lt hle h2) h3
  have hr : E * 2 ^ 52 + Z < 2 ^ 63 := Nat.lt_trans hlt2 (by decide)
  have hge : ¬ E * 2 ^ 52 + Z < 2 ^ 52 := Nat.not_lt.2 (Nat.le_trans h1 (Nat.le_add_left _ _))
  obtain ⟨hneg, hrung⟩ := word_parts neg _ _ hr
  obtain ⟨hdiv, hmod⟩ := read_word_aux E Z (2 ^ 52) h1 (by rw [← h53]; exact h2)
  unfold Format.read Format.word
  simp only [hlp, hbin, hinf, hsw, hneg, hrung, hdiv, hmod, hge, hlt2, if_false, if_true]
  have e1 : (neg.toNat == 1) = neg := by cases neg <;> rfl
  rw [e1, Nat.add_sub_of_le h1, Nat.add_sub_cancel]

/-- The word that stands for n / 2^s. -/
def Fs (s : Nat) (n : Int) : Nat := Ieee.double.nearest (decide (n < 0)) n.natAbs (-(s : Int))

/-- What a datum stands for: n / 2^s. -/
def Rep (s : Nat) (d : Datum) (n : Int) : Prop :=
  ∃ g m i, d = .number g m i ∧ i ≤ -(s : Int) ∧ ∀ b : Int, b ≤ i → signed g m (i - b).toNat = n * 2 ^ (-(s : Int) - b).toNat

/-- The same, its zero without a sign. -/
def RepP (s : Nat) (d : Datum) (n : Int) : Prop := Rep s d n ∧ (n = 0 → d.neg = false)

theorem signed_eq (g : Bool) (m u : Nat) : signed g m u = (if g then -(m : Int) else m) * 2 ^ u := by
  unfold signed
  rw [Nat.shiftLeft_eq]
  cases g <;> simp [Int.natCast_mul, Int.natCast_pow, Int.neg_mul]

theorem rep_iff (s : Nat) (g : Bool) (m : Nat) (i : Int) (n : Int) (hi : i ≤ -(s : Int)) (h : (if g then -(m : Int) else m) = n * 2 ^ (-(s : Int) - i).toNat) : Rep s (.number g m i) n := by
  refine ⟨g, m, i, rfl, hi, fun b hb => ?_⟩
  rw [signed_eq, h, Int.mul_assoc, ← Int.pow_add]
  congr 2; omega

theorem rep_val {s : Nat} {g : Bool} {m : Nat} {i : Int} {n : Int} (h : Rep s (.number g m i) n) : i ≤ -(s : Int) ∧ (if g then -(m : Int) else m) = n * 2 ^ (-(s : Int) - i).toNat := by
  obtain ⟨g', m', i', e, hi, hv⟩ := h
  cases e
  refine ⟨hi, ?_⟩
  have := hv i (Int.le_refl _)
  rw [signed_eq] at this
  simpa using this

theorem pow_pos' (k : Nat) : (0 : Int) < 2 ^ k := Int.pow_pos (by decide)

theorem sign_of_mul {a n : Int} {k : Nat} (h : a = n * 2 ^ k) : (a < 0 ↔ n < 0) ∧ (a = 0 ↔ n = 0) ∧ a.natAbs = n.natAbs * 2 ^ k := by
  have hp := pow_pos' k
  subst h
  refine ⟨?_, ?_, ?_⟩
  · constructor
    · intro h; exact Int.not_le.1 fun hn => by have := Int.mul_nonneg hn (Int.le_of_lt hp); omega
    · intro h; exact Int.mul_neg_of_neg_of_pos h hp
  · constructor
    · intro h; rcases Int.mul_eq_zero.1 h with h | h; exact h; omega
    · intro h; subst h; simp
  · rw [Int.natAbs_mul, Int.natAbs_pow]; rfl

theorem write_rep {s : Nat} {d : Datum} {n : Int} (hs : s ≤ 1000) (h : RepP s d n) (hn : n.natAbs < 2 ^ 53) : Ieee.double.write d = Fs s n := by
  obtain ⟨⟨g, m, i, rfl, hi, hv⟩, h0⟩ := h
  have hval := rep_val (s := s) (n := n) ⟨g, m, i, rfl, hi, hv⟩
  obtain ⟨sg, sz, sa⟩ := sign_of_mul hval.2
  have hmabs : m = n.natAbs * 2 ^ (-(s : Int) - i).toNat := by rw [← sa]; cases g <;> simp
  by_cases hz : n = 0
  · subst hz
    have hm : m = 0 := by simpa using hmabs
    have hg : g = false := h0 rfl
    subst hm; subst hg
    simp [Format.write, Fs, Format.nearest]
  · have hg : g = decide (n < 0) := by
      have hm0 : m ≠ 0 := by
        rw [hmabs]; exact Nat.mul_ne_zero (by omega) (by have := Nat.two_pow_pos (-(s : Int) - i).toNat; omega)
      cases g
      · simp at sg ⊢; omega
      · simp at sg ⊢; omega
    unfold Fs Format.write
    simp only
    rw [hmabs, hg]
    have e1 : i = -(s : Int) - ((-(s : Int) - i).toNat : Nat) := by omega
    have n0 : n.natAbs ≠ 0 := by omega
    have a := nearest_exact (decide (n < 0)) n.natAbs (-(s : Int) - i).toNat (-(s : Int)) n0 hn (by omega) (by omega)
    have b := nearest_exact (decide (n < 0)) n.natAbs 0 (-(s : Int)) n0 hn (by omega) (by omega)
    rw [← e1] at a
    simp only [Nat.pow_zero, Nat.mul_one, Int.natCast_zero, Int.sub_zero] at b
    rw [a, b]

theorem read_rep (s : Nat) (n : Int) (hs : s ≤ 1000) (hn : n.natAbs < 2 ^ 53) : RepP s (Ieee.double.read (Fs s n)) n := by
  by_cases hz : n = 0
  · subst hz
    have : Ieee.double.read (Fs s 0) = .number false 0 (-1074) := by
      have : Fs s 0 = 0 := by simp [Fs, Format.nearest, Format.word]
      rw [this]; decide
    rw [this]
    exact ⟨rep_iff _ _ _ _ _ (by omega) (by simp), fun _ => rfl⟩
  · have n0 : n.natAbs ≠ 0 := by omega
    have b := nearest_exact (decide (n < 0)) n.natAbs 0 (-(s : Int)) n0 hn (by omega) (by omega)
    simp only [Nat.pow_zero, Nat.mul_one, Int.natCast_zero, Int.sub_zero] at b
    have hb := upSig_bounds n0 hn
    have hl := log2_le_52 n0 hn
    have e : Fs s n = Ieee.double.word (decide (n < 0)) ((n.natAbs.log2 + -(s : Int) + 1022).toNat * 2 ^ 52 + upSig n.natAbs) := b
    rw [e, read_word _ _ _ (by omega) hb.1 hb.2]
    refine ⟨rep_iff _ _ _ _ _ (by omega) ?_, fun h => absurd h hz⟩
    have e2 : (-(s : Int) - (-1074 + ((n.natAbs.log2 + -(s : Int) + 1022).toNat : Nat))).toNat = 52 - n.natAbs.log2 := by omega
    rw [e2]
    unfold upSig
    by_cases hlt : n < 0
    · simp only [hlt, decide_true, if_true, Int.natCast_mul, Int.natCast_pow]
      rw [← Int.neg_mul]; congr 1; omega
    · simp only [hlt, decide_false, Int.natCast_mul, Int.natCast_pow, Bool.false_eq_true, if_false]
      congr 1; omega

theorem rep_opposite {s : Nat} {d : Datum} {n : Int} (h : Rep s d n) : Rep s d.opposite (-n) := by
  obtain ⟨g, m, i, rfl, hi, hv⟩ := h
  have hval := rep_val (s := s) (n := n) ⟨g, m, i, rfl, hi, hv⟩
  refine rep_iff _ _ _ _ _ hi ?_
  rw [Int.neg_mul, ← hval.2]
  cases g <;> simp

theorem rep_sum {s : Nat} {d e : Datum} {a b : Int} (h : RepP s d a) (h' : Rep s e b) : ∃ r, d.sum e = some r ∧ RepP s r (a + b) := by
  obtain ⟨⟨g, m, i, rfl, hi, hv⟩, h0⟩ := h
  obtain ⟨g', m', i', rfl, hi', hv'⟩ := h'
  have e1 := hv (min i i') (by omega)
  have e2 := hv' (min i i') (by omega)
  have etot : signed g m (i - min i i').toNat + signed g' m' (i' - min i i').toNat = (a + b) * 2 ^ (-(s : Int) - min i i').toNat := by
    rw [e1, e2, Int.add_mul]
  obtain ⟨sg, sz, sa⟩ := sign_of_mul etot
  refine ⟨_, rfl, rep_iff _ _ _ _ _ (by omega) ?_, fun hz => ?_⟩
  · rw [← etot]
    generalize signed g m (i - min i i').toNat + signed g' m' (i' - min i i').toNat = T at *
    by_cases hT : T = 0
    · simp [hT]
    · simp only [hT, if_false]
      by_cases hlt : T < 0 <;> simp [hlt] <;> omega
  · have hT := sz.2 hz
    simp only [Datum.neg]
    rw [if_pos hT]
    by_cases ha : a = 0
    · have := h0 ha; simp [Datum.neg] at this; simp [this]
    · have hb : b = -a := by omega
      have va := rep_val (s := s) (n := a) ⟨g, m, i, rfl, hi, hv⟩
      have vb := rep_val (s := s) (n := b) ⟨g', m', i', rfl, hi', hv'⟩
      obtain ⟨s1, z1, _⟩ := sign_of_mul va.2
      obtain ⟨s2, z2, _⟩ := sign_of_mul vb.2
      cases g <;> cases g' <;> simp at s1 s2 z1 z2 ⊢ <;> omega

theorem rep_product {s s' : Nat} {d e : Datum} {a b : Int} (h : Rep s d a) (h' : Rep s' e b) : ∃ r, d.product e = some r ∧ Rep (s + s') r (a * b) := by
  obtain ⟨g, m, i, rfl, hi, hv⟩ := h
  obtain ⟨g', m', i', rfl, hi', hv'⟩ := h'
  have va := rep_val (s := s) (n := a) ⟨g, m, i, rfl, hi, hv⟩
  have vb := rep_val (s := s') (n := b) ⟨g', m', i', rfl, hi', hv'⟩
  refine ⟨_, rfl, rep_iff _ _ _ _ _ (by omega) ?_⟩
  have e1 : (-((s + s' : Nat) : Int) - (i + i')).toNat = (-(s : Int) - i).toNat + (-(s' : Int) - i').toNat := by omega
  rw [e1, Int.pow_add]
  have e2 : (if (g ^^ g') = true then -((m * m' : Nat) : Int) else ((m * m' : Nat) : Int)) = (if g then -(m : Int) else m) * (if g' then -(m' : Int) else m') := by
    cases g <;> cases g' <;> simp [Int.natCast_mul, Int.neg_mul, Int.mul_neg]
  rw [e2, va.2, vb.2]
  simp only [Int.mul_assoc, Int.mul_left_comm]

theorem rep_quotient {s s' : Nat} {d e : Datum} {q b : Int} (h : Rep (s + s') d (q * b)) (h' : Rep s' e b) (hb0 : b ≠ 0) (hq : (q * b).natAbs < 2 ^ 53) (hb : b.natAbs < 2 ^ 53) :
    ∃ r, d.quotient 54 e = some r ∧ Rep s r q := by
  obtain ⟨g, m, i, rfl, hi, hv⟩ := h
  obtain ⟨g', m', i', rfl, hi', hv'⟩ := h'
  have va := rep_val (s := s + s') (n := q * b) ⟨g, m, i, rfl, hi, hv⟩
  have vb := rep_val (s := s') (n := b) ⟨g', m', i', rfl, hi', hv'⟩
  obtain ⟨sa, za, aa⟩ := sign_of_mul va.2
  obtain ⟨sb, zb, ab⟩ := sign_of_mul vb.2
  have hm : m = (q * b).natAbs * 2 ^ (-((s + s' : Nat) : Int) - i).toNat := by rw [← aa]; cases g <;> simp
  have hm' : m' = b.natAbs * 2 ^ (-(s' : Int) - i').toNat := by rw [← ab]; cases g' <;> simp
  have bn0 : b.natAbs ≠ 0 := by omega
  have hm'0 : m' ≠ 0 := by rw [hm']; exact Nat.mul_ne_zero bn0 (by have := Nat.two_pow_pos (-(s' : Int) - i').toNat; omega)
  have hlb := log2_le_52 bn0 hb
  have hlm' : m'.log2 = b.natAbs.log2 + (-(s' : Int) - i').toNat := by rw [hm', log2_mul_pow _ _ bn0]
  simp only [Datum.quotient, hm'0, if_false]
  refine ⟨_, rfl, ?_⟩
  by_cases hq0 : q = 0
  · subst hq0
    have hmz : m = 0 := by simpa using hm
    subst hmz
    have l0 : Nat.log2 0 = 0 := by decide
    refine rep_iff _ _ _ _ _ (by rw [l0, hlm']; omega) ?_
    simp
  · have qn0 : q.natAbs ≠ 0 := by omega
    have qb0 : (q * b).natAbs ≠ 0 := by rw [Int.natAbs_mul]; exact Nat.mul_ne_zero qn0 bn0
    have hlq := log2_le_52 qb0 hq
    have hlm : m.log2 = (q * b).natAbs.log2 + (-((s + s' : Nat) : Int) - i).toNat := by rw [hm, log2_mul_pow _ _ qb0]
    generalize hM : 54 + m'.log2 - m.log2 = more
    have hmore : (-(s' : Int) - i').toNat ≤ (-((s + s' : Nat) : Int) - i).toNat + more := by omega
    have hdvd : m <<< more = (q.natAbs * 2 ^ ((-((s + s' : Nat) : Int) - i).toNat + more - (-(s' : Int) - i').toNat)) * m' := by
      rw [Nat.shiftLeft_eq, hm, hm', Int.natAbs_mul, Nat.mul_assoc, ← Nat.pow_add]
      have : 2 ^ ((-((s + s' : Nat) : Int) - i).toNat + more) = 2 ^ ((-((s + s' : Nat) : Int) - i).toNat + more - (-(s' : Int) - i').toNat) * 2 ^ (-(s' : Int) - i').toNat := by
        rw [← Nat.pow_add]; congr 1; omega
      rw [this]
      simp only [Nat.mul_assoc, Nat.mul_left_comm, Nat.mul_comm]
    have hdiv : m <<< more / m' = q.natAbs * 2 ^ ((-((s + s' : Nat) : Int) - i).toNat + more - (-(s' : Int) - i').toNat) := by
      rw [hdvd]; exact Nat.mul_div_cancel _ (by omega)
    have hmod : m <<< more % m' = 0 := by rw [hdvd]; exact Nat.mul_mod_left _ _
    rw [hdiv, hmod]
    refine rep_iff _ _ _ _ _ (by omega) ?_
    have e1 : (-(s : Int) - (i - i' - more - 1)).toNat = ((-((s + s' : Nat) : Int) - i).toNat + more - (-(s' : Int) - i').toNat) + 1 := by omega
    rw [e1, Int.pow_succ]
    generalize ((-((s + s' : Nat) : Int) - i).toNat + more - (-(s' : Int) - i').toNat) = k
    have hsg : (g ^^ g') = decide (q < 0) := by
      have hmn0 : m ≠ 0 := by rw [hm]; exact Nat.mul_ne_zero qb0 (by have := Nat.two_pow_pos (-((s + s' : Nat) : Int) - i).toNat; omega)
      have h1 : g = decide (q * b < 0) := by cases g <;> simp at sa ⊢ <;> omega
      have h2 : g' = decide (b < 0) := by cases g' <;> simp at sb ⊢ <;> omega
      rw [h1, h2]
      rcases Int.lt_or_gt_of_ne hq0 with hq' | hq' <;> rcases Int.lt_or_gt_of_ne hb0 with hb' | hb'
      · have := Int.mul_pos_of_neg_of_neg hq' hb'; simp [hq', hb']; omega
      · have := Int.mul_neg_of_neg_of_pos hq' hb'; simp [hq', this]; omega
      · have := Int.mul_neg_of_pos_of_neg hq' hb'; simp [hb', this]; omega
      · have h3 := Int.mul_pos hq' hb'; have h4 : ¬ q * b < 0 := by omega
        have h5 : ¬ b < 0 := by omega
        have h6 : ¬ q < 0 := by omega
        simp [h4, h5, h6]
    rw [hsg]
    have e3 : ((2 * (q.natAbs * 2 ^ k) + (0 != 0).toNat : Nat) : Int) = (q.natAbs : Int) * (2 ^ k * 2) := by
      simp [Int.natCast_mul, Int.natCast_pow]
      rw [Int.mul_comm 2, Int.mul_assoc]
    rw [e3]
    by_cases hlt : q < 0
    · simp only [hlt, decide_true, if_true]; rw [← Int.neg_mul]; congr 1; omega
    · simp only [hlt, decide_false, Bool.false_eq_true, if_false]; congr 1; omega

theorem rep_order {s : Nat} {d e : Datum} {a b : Int} (h : Rep s d a) (h' : Rep s e b) : d.order e = some (compare a b) := by
  obtain ⟨g, m, i, rfl, hi, hv⟩ := h
  obtain ⟨g', m', i', rfl, hi', hv'⟩ := h'
  simp only [Datum.order]
  rw [hv (min i i') (by omega), hv' (min i i') (by omega)]
  have hp := pow_pos' (-(s : Int) - min i i').toNat
  generalize (2 : Int) ^ (-(s : Int) - min i i').toNat = p at hp
  congr 1
  rcases Int.lt_trichotomy a b with hab | hab | hab
  · rw [Int.compare_eq_lt.2 hab, Int.compare_eq_lt.2 (Int.mul_lt_mul_of_pos_right hab hp)]
  · subst hab; rw [Int.compare_eq_eq.2 rfl, Int.compare_eq_eq.2 rfl]
  · rw [Int.compare_eq_gt.2 hab, Int.compare_eq_gt.2 (Int.mul_lt_mul_of_pos_right hab hp)]

theorem rep_toInt {d : Datum} {n : Int} (h : Rep 0 d n) : d.toInt .zero = some n := by
  obtain ⟨g, m, i, rfl, hi, hv⟩ := h
  have va := rep_val (s := 0) (n := n) ⟨g, m, i, rfl, hi, hv⟩
  obtain ⟨sa, za, aa⟩ := sign_of_mul va.2
  have hm : m = n.natAbs * 2 ^ (-i).toNat := by
    have : (-((0 : Nat) : Int) - i).toNat = (-i).toNat := by omega
    rw [this] at aa; rw [← aa]; cases g <;> simp
  have hi0 : i.toNat = 0 := by omega
  simp only [Datum.toInt, Datum.integral, hi0, Nat.shiftLeft_zero]
  rw [hm, cut_exact _ (.inr rfl)]
  have : signed g n.natAbs 0 = n := by
    rw [signed_eq]
    cases g <;> simp at sa za aa ⊢
    · omega
    · by_cases hn : n = 0
      · omega
      · have := sa.1 (by omega); omega
  rw [this]
end Go.Proofs.Ytafanlbfbfbeoaa

/- What a walk meets of floats that are whole numbers: conversions, comparisons, differences. -/
namespace Go.Proofs.Ytafanlbfbfbeoaa
open Ieee

/-- The bits of the float that is the whole number n. -/
def F (n : Int) : Nat := Fs 0 n

/-- A number that is small enough for all that is done to it here. -/
def Sm (n : Int) : Prop := -1000000 ≤ n ∧ n ≤ 1000000

theorem Sm.abs {n : Int} (h : Sm n) : n.natAbs < 2 ^ 53 := by
  have : n.natAbs ≤ 1000000 := by have := h.1; have := h.2; omega
  exact Nat.lt_of_le_of_lt this (by decide)

@[go_sem] theorem floatOfInt_F (n : Int) : floatOfInt .f64 n = F n := by
  unfold floatOfInt F Fs FloatKind.nearest FloatKind.encode Format.write
  rfl

theorem read_F {n : Int} (h : n.natAbs < 2 ^ 53) : RepP 0 (Ieee.double.read (F n)) n := read_rep 0 n (by omega) h

theorem order_F {a b : Int} (ha : Sm a) (hb : Sm b) : FloatKind.f64.format.order (F a) (F b) = some (compare a b) :=
  rep_order (read_F ha.abs).1 (read_F hb.abs).1

@[go_sem] theorem order_F_eq {a b : Int} (ha : Sm a) (hb : Sm b) : (FloatKind.f64.format.order (F a) (F b) == some .eq) = decide (a = b) := by
  rw [order_F ha hb]
  rcases Int.lt_trichotomy a b with h | h | h
  · rw [Int.compare_eq_lt.2 h]; have : a ≠ b := by omega
    simp [this]
  · subst h; rw [Int.compare_eq_eq.2 rfl]; simp
  · rw [Int.compare_eq_gt.2 h]; have : a ≠ b := by omega
    simp [this]

@[go_sem] theorem order_F_ne {a b : Int} (ha : Sm a) (hb : Sm b) : (FloatKind.f64.format.order (F a) (F b) != some .eq) = !decide (a = b) := by
  rw [← order_F_eq ha hb]; rfl

@[go_sem] theorem order_F_lt {a b : Int} (ha : Sm a) (hb : Sm b) : (FloatKind.f64.format.order (F a) (F b) == some .lt) = decide (a < b) := by
  rw [order_F ha hb]
  rcases Int.lt_trichotomy a b with h | h | h
  · rw [Int.compare_eq_lt.2 h]; simp [h]
  · subst h; rw [Int.compare_eq_eq.2 rfl]; simp
  · rw [Int.compare_eq_gt.2 h]; have : ¬ a < b := by omega
    simp [this]

@[go_sem] theorem order_F_gt {a b : Int} (ha : Sm a) (hb : Sm b) : (FloatKind.f64.format.order (F a) (F b) == some .gt) = decide (b < a) := by
  rw [order_F ha hb]
  rcases Int.lt_trichotomy a b with h | h | h
  · rw [Int.compare_eq_lt.2 h]; have : ¬ b < a := by omega
    simp [this]
  · subst h; rw [Int.compare_eq_eq.2 rfl]; simp
  · rw [Int.compare_eq_gt.2 h]; simp [h]

theorem floatToIntVal_F {n : Int} (h : Sm n) : floatToIntVal .f64 (F n) .i64 = some n := by
  have hr := rep_toInt (read_F h.abs).1
  have h1 := h.1; have h2 := h.2
  have e1 : IntKind.min .i64 = -9223372036854775808 := by decide
  have e2 : IntKind.max .i64 = 9223372036854775807 := by decide
  unfold floatToIntVal FloatKind.decode
  show (match (Ieee.double.read (F n)).toInt .zero with | some n => _ | none => _) = _
  rw [hr, e1, e2]
  simp only
  rw [if_pos (by omega)]

theorem sub_F {a b : Int} (ha : Sm a) (hb : Sm b) : FloatKind.f64.format.sub (F a) (F b) = some (F (a - b)) := by
  obtain ⟨r, hr, hp⟩ := rep_sum (read_F ha.abs) (rep_opposite (read_F hb.abs).1)
  show ((Ieee.double.read (F a)).sum (Ieee.double.read (F b)).opposite).map Ieee.double.write = _
  rw [hr]
  have h1 := ha.1; have h2 := ha.2; have h3 := hb.1; have h4 := hb.2
  have : (a + -b).natAbs ≤ 2000000 := by omega
  have hw := write_rep (by omega) hp (Nat.lt_of_le_of_lt this (by decide))
  simp only [Option.map_some, hw]
  rfl

theorem add_F {a b : Int} (ha : Sm a) (hb : Sm b) : FloatKind.f64.format.add (F a) (F b) = some (F (a + b)) := by
  obtain ⟨r, hr, hp⟩ := rep_sum (read_F ha.abs) (read_F hb.abs).1
  show ((Ieee.double.read (F a)).sum (Ieee.double.read (F b))).map Ieee.double.write = _
  rw [hr]
  have h1 := ha.1; have h2 := ha.2; have h3 := hb.1; have h4 := hb.2
  have : (a + b).natAbs ≤ 2000000 := by omega
  have hw := write_rep (by omega) hp (Nat.lt_of_le_of_lt this (by decide))
  simp only [Option.map_some, hw]
  rfl

section
variable {P : Program} (w : World)
@[go_sem] theorem run_convert_F_int (src dst : TypeId) (n : Int) (hs : (P.underlying src).isSome = true) (hd : P.underlying dst = some (.int .i64)) (h : Sm n) :
    (convert src dst (.float .f64 (F n))).run P w = .ok (.int .i64 n) w :=
  run_convert_float_int w src dst .f64 .i64 (F n) n hs hd (floatToIntVal_F h)

@[go_sem] theorem run_sub_F (t : TypeId) (a b : Int) (ha : Sm a) (hb : Sm b) : (binOp .sub t (.float .f64 (F a)) (.float .f64 (F b))).run P w = .ok (.float .f64 (F (a - b))) w :=
  run_float_arith w .sub t .f64 _ _ _ (sub_F ha hb)

@[go_sem] theorem run_add_F (t : TypeId) (a b : Int) (ha : Sm a) (hb : Sm b) : (binOp .add t (.float .f64 (F a)) (.float .f64 (F b))).run P w = .ok (.float .f64 (F (a + b))) w :=
  run_float_arith w .add t .f64 _ _ _ (add_F ha hb)
end

@[go_sem] theorem run_store_float {P : Program} (w : World) (a : Addr) (m : Mode) (k : FloatKind) (n : Nat) : (store a (.float k n) m).run P w = stored P w a (.float k n) m := run_store P w a _ m rfl

@[go_sem] theorem run_equalIn_float {P : Program} (w : World) (d : Nat) (t : TypeId) (k : FloatKind) (a b : Nat) (h : P.underlying t = some (.float k)) :
    (Op.equalIn (d + 1) t (.float k a) (.float k b)).run P w = .ok (k.format.order a b == some .eq) w := by
  simp [Op.equalIn, run_underlying h, Op.floatEq]

theorem F_big : (4681608360884174848 : Nat) = F 100000 := by decide +kernel
theorem F_low : (13904980397738950656 : Nat) = F (-100000) := by decide +kernel
end Go.Proofs.Ytafanlbfbfbeoaa

/- Slices that a call has made, read element by element, and grown by one element. -/
namespace Go.Proofs.Ytafanlbfbfbeoaa
open Go.RowKit

def spotE (p : Int × Int) : List Value := [.int .i64 p.1, .int .i64 p.2]
def ptE (p : Int × Int) : List Value := [.float .f64 (F p.1), .float .f64 (F p.2)]
def stepE (p : (Int × Int) × (Int × Int)) : List Value := [.int .i64 p.1.1, .int .i64 p.1.2, .int .i64 p.2.1, .int .i64 p.2.2]

theorem flat_get {α : Type} (enc : α → List Value) (s : Nat) (hs : ∀ p, (enc p).length = s) : ∀ (ps : List α) (k : Nat) (hk : k < ps.length) (j : Nat), j < s → (ps.flatMap enc)[k * s + j]? = (enc ps[k])[j]? := by
  intro ps
  induction ps with
  | nil => intro k hk; simp at hk
  | cons p ps ih =>
    intro k hk j hj
    rw [List.flatMap_cons]
    cases k with
    | zero => rw [List.getElem?_append_left (by rw [hs]; omega)]; simp
    | succ k =>
      rw [List.getElem?_append_right (by rw [hs, Nat.add_mul]; omega), hs]
      have : (k + 1) * s + j - s = k * s + j := by rw [Nat.add_mul]; omega
      rw [this, ih k (by simpa using hk) j hj]; rfl

theorem flat_len {α : Type} (enc : α → List Value) (s : Nat) (hs : ∀ p, (enc p).length = s) (ps : List α) : (ps.flatMap enc).length = ps.length * s := by
  induction ps with
  | nil => simp
  | cons p ps ih => rw [List.flatMap_cons, List.length_append, ih, hs, List.length_cons, Nat.add_mul]; omega

theorem cells_block {w : World} {g : Nat} {cur : Array Value} {e : TypeId} (h : w.heap[g]? = some (.cells cur e (0, 0))) (o : Nat) : w.cell? ⟨g, o, none⟩ = cur[o]? :=
  cell_of_row w g o cur e (0, 0) h

/-- What is owned, read. -/
theorem row_read {w : World} {B : Nat} {e : TypeId} {s : Nat} {ao : Option Addr} {n cap : Nat} {xs : List Value} (h : w.ownsRow B e s (.slice ao n cap) n xs) :
    ∃ g, (0 < n → ao = some ⟨g, 0, none⟩ ∧ g < w.heap.size ∧ B ≤ g) ∧ ∀ o, o < n * s → w.cell? ⟨g, o, none⟩ = xs[o]? := by
  rcases h.2 with ⟨h0, h1⟩ | ⟨g, cap', cur, hv, hb, hg, hn, hcap, hsz, htake⟩
  · cases h0
    exact ⟨0, fun h => by omega, fun o ho => by omega⟩
  · cases hv
    refine ⟨g, fun _ => ⟨rfl, ?_, hb⟩, fun o ho => ?_⟩
    · rcases Nat.lt_or_ge g w.heap.size with hlt | hge
      · exact hlt
      · rw [Array.getElem?_eq_none hge] at hg; cases hg
    · rw [cells_block hg, ← htake, List.getElem?_take, if_pos ho]; simp

theorem row_read_flat {α : Type} {w : World} {B : Nat} {e : TypeId} {s : Nat} {ao : Option Addr} {cap : Nat} (enc : α → List Value) (hs : ∀ p, (enc p).length = s) (ps : List α)
    (h : w.ownsRow B e s (.slice ao ps.length cap) ps.length (ps.flatMap enc)) :
    ∃ g, (0 < ps.length → ao = some ⟨g, 0, none⟩ ∧ g < w.heap.size ∧ B ≤ g) ∧ ∀ k (hk : k < ps.length) j, j < s → w.cell? ⟨g, k * s + j, none⟩ = (enc ps[k])[j]? := by
  obtain ⟨g, h1, h2⟩ := row_read h
  refine ⟨g, h1, fun k hk j hj => ?_⟩
  have hlt : k * s + j < ps.length * s := by
    have h3 : (k + 1) * s ≤ ps.length * s := Nat.mul_le_mul_right _ hk
    rw [Nat.add_mul] at h3; omega
  rw [h2 _ hlt, flat_get enc s hs ps k hk j hj]

theorem spots_read {w : World} {B : Nat} {ao : Option Addr} {cap : Nat} {e : TypeId} {ps : List (Int × Int)} (h : w.ownsRow B e 2 (.slice ao ps.length cap) ps.length (ps.flatMap spotE)) :
    ∃ g, (0 < ps.length → ao = some ⟨g, 0, none⟩ ∧ g < w.heap.size ∧ B ≤ g) ∧ ∀ k (hk : k < ps.length), w.cell? ⟨g, k * 2, none⟩ = some (.int .i64 ps[k].1) ∧ w.cell? ⟨g, k * 2 + 1, none⟩ = some (.int .i64 ps[k].2) := by
  obtain ⟨g, h1, h2⟩ := row_read_flat spotE (fun _ => rfl) ps h
  exact ⟨g, h1, fun k hk => ⟨h2 k hk 0 (by omega), h2 k hk 1 (by omega)⟩⟩

theorem pts_read {w : World} {B : Nat} {ao : Option Addr} {cap : Nat} {e : TypeId} {ps : List (Int × Int)} (h : w.ownsRow B e 2 (.slice ao ps.length cap) ps.length (ps.flatMap ptE)) :
    ∃ g, (0 < ps.length → ao = some ⟨g, 0, none⟩ ∧ g < w.heap.size ∧ B ≤ g) ∧ ∀ k (hk : k < ps.length), w.cell? ⟨g, k * 2, none⟩ = some (.float .f64 (F ps[k].1)) ∧ w.cell? ⟨g, k * 2 + 1, none⟩ = some (.float .f64 (F ps[k].2)) := by
  obtain ⟨g, h1, h2⟩ := row_read_flat ptE (fun _ => rfl) ps h
  exact ⟨g, h1, fun k hk => ⟨h2 k hk 0 (by omega), h2 k hk 1 (by omega)⟩⟩

theorem steps_read {w : World} {B : Nat} {ao : Option Addr} {cap : Nat} {e : TypeId} {ps : List ((Int × Int) × (Int × Int))} (h : w.ownsRow B e 4 (.slice ao ps.length cap) ps.length (ps.flatMap stepE)) :
    ∃ g, (0 < ps.length → ao = some ⟨g, 0, none⟩ ∧ g < w.heap.size ∧ B ≤ g) ∧ ∀ k (hk : k < ps.length), w.cell? ⟨g, k * 4, none⟩ = some (.int .i64 ps[k].1.1) ∧ w.cell? ⟨g, k * 4 + 1, none⟩ = some (.int .i64 ps[k].1.2) ∧
      w.cell? ⟨g, k * 4 + 2, none⟩ = some (.int .i64 ps[k].2.1) ∧ w.cell? ⟨g, k * 4 + 3, none⟩ = some (.int .i64 ps[k].2.2) := by
  obtain ⟨g, h1, h2⟩ := row_read_flat stepE (fun _ => rfl) ps h
  exact ⟨g, h1, fun k hk => ⟨h2 k hk 0 (by omega), h2 k hk 1 (by omega), h2 k hk 2 (by omega), h2 k hk 3 (by omega)⟩⟩

theorem vals_read {w : World} {B : Nat} {ao : Option Addr} {cap : Nat} {e : TypeId} {vs : List Value} (h : w.ownsRow B e 1 (.slice ao vs.length cap) vs.length vs) :
    ∃ g, (0 < vs.length → ao = some ⟨g, 0, none⟩ ∧ g < w.heap.size ∧ B ≤ g) ∧ ∀ k (hk : k < vs.length), w.cell? ⟨g, k, none⟩ = some vs[k] := by
  obtain ⟨g, h1, h2⟩ := row_read h
  refine ⟨g, h1, fun k hk => ?_⟩
  rw [h2 k (by omega)]; simp [hk]

/-- A row that was owned is owned in a world that is as it was below its size. -/
theorem own_below {w w' : World} {B C : Nat} {e : TypeId} {s : Nat} {v : Value} {n : Nat} {xs : List Value} (h : w.ownsRow B e s v n xs) (hb : Below C w w') (hC : w.heap.size ≤ C) : w'.ownsRow B e s v n xs := by
  refine ⟨h.1, ?_⟩
  rcases h.2 with hn | ⟨g, cap, cur, hv, hb', hg, rest⟩
  · exact .inl hn
  · have hlt : g < w.heap.size := by
      rcases Nat.lt_or_ge g w.heap.size with hlt | hge
      · exact hlt
      · rw [Array.getElem?_eq_none hge] at hg; cases hg
    exact .inr ⟨g, cap, cur, hv, hb', by rw [hb.block g (by omega)]; exact hg, rest⟩

theorem own_mono {w : World} {B B' : Nat} {e : TypeId} {s : Nat} {v : Value} {n : Nat} {xs : List Value} (h : w.ownsRow B e s v n xs) (hB : B' ≤ B) : w.ownsRow B' e s v n xs := by
  refine ⟨h.1, ?_⟩
  rcases h.2 with hn | ⟨g, cap, cur, hv, hb', rest⟩
  · exact .inl hn
  · exact .inr ⟨g, cap, cur, hv, by omega, rest⟩

theorem own_form {w : World} {B : Nat} {e : TypeId} {s : Nat} {v : Value} {n : Nat} {xs : List Value} (h : w.ownsRow B e s v n xs) : ∃ ao cap, v = .slice ao n cap := by
  rcases h.2 with ⟨hv, h0⟩ | ⟨g, cap, cur, hv, rest⟩
  · exact ⟨none, 0, by rw [hv, h0]⟩
  · exact ⟨_, cap, hv⟩

/-- 'make', or a literal, of elements that are known. -/
theorem own_new (w : World) (B : Nat) (hB : B ≤ w.heap.size) (e : TypeId) (s n : Nat) (xs : List Value) (hl : xs.length = n * s) (hn : n ≤ 1000000) :
    (w.alloc (.cells xs.toArray e)).ownsRow B e s (.slice (some ⟨w.heap.size, 0, none⟩) n n) n xs := by
  refine ⟨hl, .inr ⟨w.heap.size, n, xs.toArray, rfl, hB, heap_alloc_new w _, Nat.le_refl _, by unfold maxLen; omega, by simpa using hl, ?_⟩⟩
  simp [← hl]

theorem below_alloc {B : Nat} {W w : World} (h : Below B W w) (o : Obj) (hB : B ≤ W.heap.size) : Below B W (w.alloc o) := h.alloc (Nat.le_trans hB h.size) o

/-- A block that is known whole. -/
def Blk (w : World) (b : Nat) (cs : Array Value) (e : TypeId) : Prop := w.heap[b]? = some (.cells cs e (0, 0))

theorem Blk.lt {w : World} {b : Nat} {cs : Array Value} {e : TypeId} (h : Blk w b cs e) : b < w.heap.size := by
  rcases Nat.lt_or_ge b w.heap.size with hlt | hge
  · exact hlt
  · unfold Blk at h; rw [Array.getElem?_eq_none hge] at h; cases h

theorem Blk.cell {w : World} {b : Nat} {cs : Array Value} {e : TypeId} (h : Blk w b cs e) (o : Nat) : w.cell? ⟨b, o, none⟩ = cs[o]? := cells_block h o

theorem Blk.frozen {w : World} {b : Nat} {cs : Array Value} {e : TypeId} (h : Blk w b cs e) (o : Nat) : w.frozen? ⟨b, o, none⟩ = false := by
  unfold Blk at h
  simp [World.frozen?, h]

theorem Blk.new (w : World) (cs : Array Value) (e : TypeId) : Blk (w.alloc (.cells cs e)) w.heap.size cs e := heap_alloc_new w _

theorem Blk.alloc {w : World} {b : Nat} {cs : Array Value} {e : TypeId} (h : Blk w b cs e) (o : Obj) : Blk (w.alloc o) b cs e :=
  (Below.heap_alloc w o b h.lt).trans h

theorem Blk.drew {w : World} {b : Nat} {cs : Array Value} {e : TypeId} (h : Blk w b cs e) : Blk w.drew b cs e := h

theorem Blk.below {w w' : World} {b C : Nat} {cs : Array Value} {e : TypeId} (h : Blk w b cs e) (hb : Below C w w') (hC : b < C) : Blk w' b cs e := (hb.block b hC).trans h

theorem Blk.grown {w w' : World} {b : Nat} {cs : Array Value} {e : TypeId} {row : Option Nat} (h : Blk w b cs e) (hg : w.grownBy w' row) (hne : some b ≠ row) : Blk w' b cs e := (hg.block b h.lt hne).trans h

theorem Blk.set {w : World} {b : Nat} {cs : Array Value} {e : TypeId} (h : Blk w b cs e) (o : Nat) (v : Value) : Blk (w.setCell ⟨b, o, none⟩ v) b (cs.setIfInBounds o v) e := by
  have hlt := h.lt
  have h' : w.heap[b] = .cells cs e (0, 0) := by unfold Blk at h; simpa [Array.getElem?_eq_getElem hlt] using h
  show (w.heap.modify b _)[b]? = _
  rw [Array.getElem?_eq_getElem (by simpa using hlt), Array.getElem_modify_self, h']
  simp

theorem Blk.setOther {w : World} {b : Nat} {cs : Array Value} {e : TypeId} (h : Blk w b cs e) (a : Addr) (hne : b ≠ a.block) (v : Value) : Blk (w.setCell a v) b cs e :=
  (Below.heap_setCell w a v b hne).trans h

/-- A store into a block that is no part of the row. -/
theorem own_setOther {w : World} {B : Nat} {e : TypeId} {s : Nat} {v : Value} {n : Nat} {xs : List Value} (h : w.ownsRow B e s v n xs) (a : Addr) (ha : a.block < B) (u : Value) : (w.setCell a u).ownsRow B e s v n xs :=
  ownsRow_setCell_below h ha u

/-- 'out = append(out, x)': x one element, laid in the block that is the last. -/
theorem wpList_push {P : Program} {ops : Array Oper} {rest : List Oper} {o : Oper} {a : Act} {Q : Exit → Act → World → Prop} (hgd : o.guard = none) (s x : Operand) (t : TypeId)
    (ho : o.op = .call { callee := .builtin .append, args := #[s, x], argTypes := #[t, t] })
    (e : TypeId) (i : TypeInfo) (z : Value) (size bytes : Nat) (ht : P.underlying t = some (.slice e)) (hi : P.info? e = some i) (hz : i.zero = some z)
    (hsize : i.size = size) (hby : i.bytes = bytes) (hzs : z.cells.size = size) (hsz : 0 < size) (hbs : bytes ≤ 1000)
    (W w0 : World) (B : Nat) (v : Value) (n : Nat) (xs : List Value) (hs : a.eval s = v) (hown : w0.ownsRow B e size v n xs) (C : Nat) (hbel : Below C W w0) (hCB : C ≤ B) (hBs : B ≤ w0.heap.size) (hn : n ≤ 1000000000)
    (news : List Value) (e' : TypeId) (G : Nat) (hG : w0.heap.size = G) (c : Nat) (hx : a.eval x = .slice (some ⟨G, 0, none⟩) 1 c) (hl : news.length = size) (h1 : ∀ u ∈ news, u.oneCell' = true)
    (h : ∀ g cap w', w'.ownsRow B e size (.slice (some ⟨g, 0, none⟩) (n + 1) cap) (n + 1) (xs ++ news) → Below C W w' → w0.heap.size < w'.heap.size →
      (w0.alloc (.cells news.toArray e')).grownBy w' v.ownBlock → (v.ownBlock = some g ∨ g = G + 1) → g < w'.heap.size → wpList P ops Q rest (a.put o.dst (.slice (some ⟨g, 0, none⟩) (n + 1) cap)) w') :
    wpList P ops Q (o :: rest) a (w0.alloc (.cells news.toArray e')) := by
  subst hG
  refine wpList_append_lies _ hgd s x t ho B e i z size bytes ht hi hz hsize hby hzs hsz v n xs hs (hown.alloc _) ⟨w0.heap.size, 0, none⟩ 1 c news hx (by omega) ?_ h1 (by omega) (by unfold maxLen; omega) ?_ (by simp; omega) (w0.heap.size + 1) (by simp) ?_
  · intro j u hj
    have hadd : (⟨w0.heap.size, 0, none⟩ : Addr).add j = ⟨w0.heap.size, j, none⟩ := by unfold Addr.add; split <;> simp_all
    rw [hadd, cells_block (heap_alloc_new w0 _)]
    simpa using hj
  · have h2 : (n + 1) * bytes ≤ (n + 1) * 1000 := Nat.mul_le_mul_left _ hbs
    omega
  · intro g cap w' ho1 hg1 hat hlt
    refine h g cap w' ho1 ?_ ?_ hg1 hat hlt
    · refine (hbel.alloc (by omega) _).grown hg1 (by simp; omega) fun k hk => Nat.le_trans hCB (hown.lt k hk).1
    · have := hg1.size; simp at this; omega
end Go.Proofs.Ytafanlbfbfbeoaa


namespace Go.Proofs.Ytafanlbfbfbeoaa
open Go.RowKit

theorem ret_bool {a b : Bool} (h : a = b) : Ending.returned (.bool a) = Ending.returned (.bool b) := by rw [h]
theorem ret_int {k : IntKind} {a b : Int} (h : a = b) : Ending.returned (.int k a) = Ending.returned (.int k b) := by rw [h]

def hasB (lx ly hx hy x y : Int) : Bool := decide (lx ≤ x) && decide (x ≤ hx) && decide (ly ≤ y) && decide (y ≤ hy)

theorem hasB_iff {lx ly hx hy x y : Int} : hasB lx ly hx hy x y = true ↔ lx ≤ x ∧ x ≤ hx ∧ ly ≤ y ∧ y ≤ hy := by
  simp [hasB, and_assoc]

set_option maxRecDepth 100000 in
set_option maxHeartbeats 400000 in
theorem has_any (lx ly hx hy x y : Int) (w : World) :
    Calls Try.prog 12 #[.agg #[.int .i64 lx, .int .i64 ly, .int .i64 hx, .int .i64 hy], .agg #[.int .i64 x, .int .i64 y]] w
      fun e w' => e = .returned (.bool (hasB lx ly hx hy x y)) ∧ Below w.heap.size w w' := by
  go_enter Try.func12, Try.ntmps12
  go_wp2
  all_goals
    go_ret
    refine ⟨ret_bool ?_, ((Below.refl _ _).alloc (Nat.le_refl _) _).alloc (by simp) _⟩
    unfold hasB
    simp
    try omega
end Go.Proofs.Ytafanlbfbfbeoaa


namespace Go.Proofs.Ytafanlbfbfbeoaa
open Go.RowKit

/-- The box of four numbers. -/
def BoxOk (a b c d lx ly hx hy : Int) : Prop := lx = min a c ∧ ly = min b d ∧ hx = max (max a c) (lx + 1) ∧ hy = max (max b d) (ly + 1)

set_option maxRecDepth 100000 in
set_option maxHeartbeats 400000 in
theorem box_any (a b c d : Int) (ha : -128 ≤ a) (ha' : a ≤ 127) (hb : -128 ≤ b) (hb' : b ≤ 127) (hc : -128 ≤ c) (hc' : c ≤ 127) (hd : -128 ≤ d) (hd' : d ≤ 127) (w : World) :
    Calls Try.prog 7 #[.int .i8 a, .int .i8 b, .int .i8 c, .int .i8 d] w
      fun e w' => ∃ lx ly hx hy, e = .returned (.agg #[.int .i64 lx, .int .i64 ly, .int .i64 hx, .int .i64 hy]) ∧ BoxOk a b c d lx ly hx hy ∧ Below w.heap.size w w' := by
  go_enter Try.func7, Try.ntmps7
  go_wp2
  all_goals
    refine bodyPost_ret (v := .agg #[.int .i64 _, .int .i64 _, .int .i64 _, .int .i64 _]) (by simp [results, Try.results7, go_sem]; exact ⟨rfl, rfl, rfl, rfl⟩) rfl ⟨_, _, _, _, rfl, ?_, ((Below.refl _ _).alloc (Nat.le_refl _) _).alloc (by simp) _⟩
    unfold BoxOk
    omega
end Go.Proofs.Ytafanlbfbfbeoaa
