/- What the laws of smartclip lean on: a ring's points, its steps. -/
import Derived.Test.YtafanlbfbfbeoaaCe
import Derived.Test.YtafanlbfbfbeoaaRp
import Derived.Test.YtafanlbfbfbeoaaJa
namespace Go.Proofs.Ytafanlbfbfbeoaa
open Go.RowKit

theorem ring_octi {ps : List (Int × Int)} (h : RingOk ps) : OctiL (ps.headD (0, 0)) ps := by
  have ho := h.octi
  have hc := h.closed
  cases ps with
  | nil => trivial
  | cons p ps => exact ⟨octi_self _, ho.2⟩

theorem closedL_len (ws : List (Int × Int)) : (closedL ws).length ≤ ws.length + 3 := by
  unfold closedL backOne backY backX
  (repeat' split) <;> simp <;> omega

theorem seg_get {P Q : Int × Int} {k : Nat} (h : k < (segS P Q).length) : (segS P Q)[k] = (ptK P (dirK P Q) (k : Int), ptK P (dirK P Q) ((k : Int) + 1)) := by
  have e : (segS P Q)[k]? = some (ptK P (dirK P Q) (k : Int), ptK P (dirK P Q) ((k : Int) + 1)) := by
    rw [seg_len] at h
    unfold segS
    rw [List.getElem?_map, List.getElem?_range h]
    rfl
  rw [List.getElem?_eq_getElem h] at e
  exact Option.some.inj e

theorem seg_self (P : Int × Int) : segS P P = [] := by
  unfold segS lenK
  simp

theorem dir_back (P Q : Int × Int) : dirK Q P = (-(dirK P Q).1, -(dirK P Q).2) := by
  unfold dirK sgn
  ext <;> simp only <;> omega

theorem len_back (P Q : Int × Int) : lenK Q P = lenK P Q := by unfold lenK; omega

/-- Out and back the same way is not simple. -/
theorem simple_four {ps : List (Int × Int)} (hc : ps.head? = ps.getLast?) (ho : OctiL (ps.headD (0, 0)) ps) (h : SimpleB (stepsL ps)) : 4 ≤ ps.length := by
  obtain ⟨h3, _, hap, _⟩ := h
  match ps, hc, ho, h3, hap with
  | [], _, _, h3, _ => simp [stepsL] at h3
  | [a], _, _, h3, _ => simp [stepsL, stepsR] at h3
  | [a, b], hc, _, h3, _ =>
    simp at hc
    subst hc
    simp [stepsL, stepsR, seg_self] at h3
  | [a, b, c], hc, ho, h3, hap =>
    exfalso
    simp at hc
    subst hc
    have e : stepsL [a, b, a] = segS a b ++ segS b a := by simp [stepsL, stepsR]
    rw [e] at h3
    have hl1 := seg_len a b
    have hl2 := seg_len b a
    rw [len_back a b] at hl2
    rw [List.length_append, hl1, hl2] at h3
    have hn := len_nonneg a b
    have hk := hap (2 * (lenK a b).toNat - 1) 0 (by rw [e, List.length_append, hl1, hl2]; omega) (by omega)
    have g0 : (stepsL [a, b, a])[0]'(by rw [e, List.length_append, hl1, hl2]; omega) = (ptK a (dirK a b) ((0 : Nat) : Int), ptK a (dirK a b) (((0 : Nat) : Int) + 1)) := by
      simp only [e]
      rw [List.getElem_append_left (by omega), seg_get]
    have g1 : (stepsL [a, b, a])[2 * (lenK a b).toNat - 1]'(by rw [e, List.length_append, hl1, hl2]; omega) = (ptK b (dirK b a) (((lenK a b).toNat - 1 : Nat) : Int), ptK b (dirK b a) ((((lenK a b).toNat - 1 : Nat) : Int) + 1)) := by
      simp only [e]
      rw [List.getElem_append_right (by omega), seg_get]
      simp only [hl1]
      rw [show 2 * (lenK a b).toNat - 1 - (lenK a b).toNat = (lenK a b).toNat - 1 by omega]
    rw [g0, g1, dir_back a b] at hk
    have hb := pt_len ho.2.1
    have hd := dir_ok a b
    obtain ⟨n, hn'⟩ : ∃ n : Nat, lenK a b = n := ⟨(lenK a b).toNat, by omega⟩
    rw [hn'] at hk hb h3
    generalize dirK a b = d at *
    apply hk.2
    unfold ptK at hb ⊢
    have b1 := congrArg Prod.fst hb
    have b2 := congrArg Prod.snd hb
    simp only [Int.toNat_natCast] at b1 b2 h3 ⊢
    rw [← b1, ← b2]
    have e1 : ((n - 1 : Nat) : Int) = (n : Int) - 1 := by omega
    rw [e1]
    obtain ⟨d1, d2⟩ := d
    simp only
    constructor <;> grind
  | a :: b :: c :: d :: l, _, _, _, _ => simp

/-- A ring that lies within the box, and off its sides. -/
theorem line_inside {lx ly hx hy : Int} {ps : List (Int × Int)} (h2 : 2 ≤ ps.length) (ho : OctiL (ps.headD (0, 0)) ps) (hin : ∀ p ∈ ps, hasB lx ly hx hy p.1 p.2 = true) (hoff : ∀ p ∈ ps, OffB lx ly hx hy p) : lineL true lx ly hx hy ps = [ps] := by
  have hcode : ∀ p ∈ ps, codeX true lx ly hx hy p.1 p.2 = 0 := fun p hp => by
    have h1 := hasB_iff.1 (hin p hp)
    have h2 := hoff p hp
    unfold OffB at h2
    unfold codeX acode
    simp only [if_true]
    (repeat' split) <;> omega
  cases ps with
  | nil => simp at h2
  | cons P l =>
    have hl : l ≠ [] := fun e => by subst e; simp at h2
    exact line_in l P [] [] (.inl ⟨rfl, rfl⟩) hl ho.2 (hcode P (by simp)) fun Q hQ => hcode Q (by simp [hQ])

theorem ring_last {ps : List (Int × Int)} (hc : ps.head? = ps.getLast?) (h : 0 < ps.length) : ps[ps.length - 1] = ps[0] := by
  rw [List.head?_eq_getElem?, List.getLast?_eq_getElem?, List.getElem?_eq_getElem h, List.getElem?_eq_getElem (by omega)] at hc
  simpa using hc.symm
end Go.Proofs.Ytafanlbfbfbeoaa
