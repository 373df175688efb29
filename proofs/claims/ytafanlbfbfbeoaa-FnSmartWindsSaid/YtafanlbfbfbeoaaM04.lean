/- What the proofs over smartclip lean on, part 5 of 48. -/
import Derived.Test.YtafanlbfbfbeoaaM03

/- The codes of a point, and the point at which a line is cut, by steps. -/
namespace Go.Proofs.Ytafanlbfbfbeoaa
open Go.RowKit

/-- The code of a point. -/
def codeX (o : Bool) (lx ly hx hy x y : Int) : Int := acode o lx hx x + 4 * acode o ly hy y

theorem codeX_false (lx ly hx hy x y : Int) : codeI lx ly hx hy x y = codeX false lx ly hx hy x y := by
  unfold codeI codeX acode; simp only [Bool.false_eq_true, if_false]; (repeat' split) <;> omega

set_option maxRecDepth 100000 in
set_option maxHeartbeats 1000000 in
theorem bitCodeX_any (lx ly hx hy x y : Int) (h1 : Sm lx) (h2 : Sm ly) (h3 : Sm hx) (h4 : Sm hy) (h5 : Sm x) (h6 : Sm y) (w : World) :
    Calls Try.prog 65 #[.agg #[.float .f64 (F lx), .float .f64 (F ly), .float .f64 (F hx), .float .f64 (F hy)], .agg #[.float .f64 (F x), .float .f64 (F y)]] w
      fun e w' => e = .returned (.int .i64 (codeX false lx ly hx hy x y)) ∧ Below w.heap.size w w' := by
  rw [← codeX_false]
  exact bitCode_any lx ly hx hy x y h1 h2 h3 h4 h5 h6 w

set_option maxRecDepth 100000 in
set_option maxHeartbeats 1000000 in
theorem bitCodeOpen_any (lx ly hx hy x y : Int) (h1 : Sm lx) (h2 : Sm ly) (h3 : Sm hx) (h4 : Sm hy) (h5 : Sm x) (h6 : Sm y) (w : World) :
    Calls Try.prog 64 #[.agg #[.float .f64 (F lx), .float .f64 (F ly), .float .f64 (F hx), .float .f64 (F hy)], .agg #[.float .f64 (F x), .float .f64 (F y)]] w
      fun e w' => e = .returned (.int .i64 (codeX true lx ly hx hy x y)) ∧ Below w.heap.size w w' := by
  go_enter Try.func64, Try.ntmps64
  go_wp2
  all_goals
    go_ret
    refine ⟨ret_int ?_, ((Below.refl _ _).alloc (Nat.le_refl _) _).alloc (by simp) _⟩
    unfold codeX acode
    have e1 : bits .or .i64 0 1 = 1 := by decide
    have e2 : bits .or .i64 0 2 = 2 := by decide
    have e3 : bits .or .i64 0 4 = 4 := by decide
    have e4 : bits .or .i64 0 8 = 8 := by decide
    have e5 : bits .or .i64 1 4 = 5 := by decide
    have e6 : bits .or .i64 1 8 = 9 := by decide
    have e7 : bits .or .i64 2 4 = 6 := by decide
    have e8 : bits .or .i64 2 8 = 10 := by decide
    try simp only [e1, e2, e3, e4, e5, e6, e7, e8]
    simp only [if_true]
    (repeat' split) <;> omega

theorem arith_step {p q c s t u : Int} {d e : Int} (_hd : d = -1 ∨ d = 0 ∨ d = 1) (he : e = -1 ∨ e = 1) (hst : s < t) (hp : Sm (p + s * d)) (_hp' : Sm (p + t * d)) (hpu : Sm (p + u * d)) (hq : Sm (q + s * e)) (hq' : Sm (q + t * e)) (hc : q + u * e = c) (hcs : Sm c)
    (h1 : Sm ((p + t * d) - (p + s * d))) (h2 : Sm (c - (q + s * e))) (h3 : Sm ((q + t * e) - (q + s * e))) (h4 : Sm ((u - s) * d)) :
    Arith (p + s * d) ((p + t * d) - (p + s * d)) (c - (q + s * e)) ((q + t * e) - (q + s * e)) (p + u * d) := by
  have hr : p + u * d = (p + s * d) + (u - s) * d := by grind
  rw [hr] at hpu ⊢
  refine isect_float hp h1 h2 h3 ?_ ?_ h4 hpu
  · rcases he with rfl | rfl <;> omega
  · subst hc; grind

set_option maxHeartbeats 1000000 in
theorem isectK_any (lx ly hx hy : Int) (P d : Int × Int) (s t u cx cy : Int) (hl : Near (lx, ly)) (hh : Near (hx, hy)) (hd : Dir d) (hst : s < t) (hcx : cx = 0 ∨ cx = 1 ∨ cx = 2) (hcy : cy = 0 ∨ cy = 1 ∨ cy = 2) (hc : ¬ (cx = 0 ∧ cy = 0))
    (hs : Near (ptK P d s)) (ht : Near (ptK P d t)) (hu : Near (ptK P d u)) (hit : Hit lx ly hx hy P d cx cy u) (w : World) :
    Calls Try.prog 67 #[.agg #[.float .f64 (F lx), .float .f64 (F ly), .float .f64 (F hx), .float .f64 (F hy)], .int .i64 (cx + 4 * cy), .agg #[.float .f64 (F (ptK P d s).1), .float .f64 (F (ptK P d s).2)], .agg #[.float .f64 (F (ptK P d t).1), .float .f64 (F (ptK P d t).2)]] w
      fun e w' => e = .returned (.agg #[.float .f64 (F (ptK P d u).1), .float .f64 (F (ptK P d u).2)]) ∧ Below w.heap.size w w' := by
  have sm : ∀ p q : Int, (-3000 ≤ p ∧ p ≤ 3000) → (-3000 ≤ q ∧ q ≤ 3000) → Sm (p - q) := fun p q h1 h2 => ⟨by omega, by omega⟩
  obtain ⟨hs1, hs2⟩ := hs.sm
  obtain ⟨ht1, ht2⟩ := ht.sm
  obtain ⟨hu1, hu2⟩ := hu.sm
  obtain ⟨hl1, hl2⟩ := hl.sm
  obtain ⟨hh1, hh2⟩ := hh.sm
  have sx : Sm ((u - s) * d.1) := by
    have e : (u - s) * d.1 = (ptK P d u).1 - (ptK P d s).1 := by simp only [ptK]; grind
    rw [e]; exact sm _ _ hu.1 hs.1
  have sy : Sm ((u - s) * d.2) := by
    have e : (u - s) * d.2 = (ptK P d u).2 - (ptK P d s).2 := by simp only [ptK]; grind
    rw [e]; exact sm _ _ hu.2 hs.2
  unfold Hit at hit
  by_cases hy0 : cy = 0
  · rw [if_pos hy0] at hit
    obtain ⟨hd1, hon⟩ := hit
    have he : d.1 = -1 ∨ d.1 = 1 := by rcases hd.1 with e | e | e <;> omega
    by_cases hx2 : cx = 2
    · rw [if_pos hx2] at hon
      have ha : Arith (ptK P d s).2 ((ptK P d t).2 - (ptK P d s).2) (hx - (ptK P d s).1) ((ptK P d t).1 - (ptK P d s).1) (ptK P d u).2 :=
        arith_step hd.2 he hst hs2 ht2 hu2 hs1 ht1 hon hh1 (sm _ _ ht.2 hs.2) (sm _ _ hh.1 hs.1) (sm _ _ ht.1 hs.1) sy
      have e : (ptK P d u).1 = hx := hon
      rw [e]
      subst hx2; subst hy0
      exact isect_right _ lx ly hx hy _ _ _ _ _ hh1 hs1 hs2 ht1 ht2 (by show _ = _; decide) (by show _ = _; decide) (by show _ = _; decide) ha w
    · have hx1 : cx = 1 := by omega
      rw [if_neg hx2] at hon
      have ha : Arith (ptK P d s).2 ((ptK P d t).2 - (ptK P d s).2) (lx - (ptK P d s).1) ((ptK P d t).1 - (ptK P d s).1) (ptK P d u).2 :=
        arith_step hd.2 he hst hs2 ht2 hu2 hs1 ht1 hon hl1 (sm _ _ ht.2 hs.2) (sm _ _ hl.1 hs.1) (sm _ _ ht.1 hs.1) sy
      have e : (ptK P d u).1 = lx := hon
      rw [e]
      subst hx1; subst hy0
      exact isect_left _ lx ly hx hy _ _ _ _ _ hl1 hs1 hs2 ht1 ht2 (by show _ = _; decide) (by show _ = _; decide) (by show _ = _; decide) (by show _ = _; decide) ha w
  · rw [if_neg hy0] at hit
    obtain ⟨hd1, hon⟩ := hit
    have he : d.2 = -1 ∨ d.2 = 1 := by rcases hd.2 with e | e | e <;> omega
    by_cases hy2 : cy = 2
    · rw [if_pos hy2] at hon
      have ha : Arith (ptK P d s).1 ((ptK P d t).1 - (ptK P d s).1) (hy - (ptK P d s).2) ((ptK P d t).2 - (ptK P d s).2) (ptK P d u).1 :=
        arith_step hd.1 he hst hs1 ht1 hu1 hs2 ht2 hon hh2 (sm _ _ ht.1 hs.1) (sm _ _ hh.2 hs.2) (sm _ _ ht.2 hs.2) sx
      have e : (ptK P d u).2 = hy := hon
      rw [e]
      subst hy2
      have e8 : Hid (bits .and .i64 (cx + 4 * 2) 8 = 8) := by show _ = _; rcases hcx with rfl | rfl | rfl <;> decide
      exact isect_top _ lx ly hx hy _ _ _ _ _ hh2 hs1 hs2 ht1 ht2 e8 ha w
    · have hy1 : cy = 1 := by omega
      rw [if_neg hy2] at hon
      have ha : Arith (ptK P d s).1 ((ptK P d t).1 - (ptK P d s).1) (ly - (ptK P d s).2) ((ptK P d t).2 - (ptK P d s).2) (ptK P d u).1 :=
        arith_step hd.1 he hst hs1 ht1 hu1 hs2 ht2 hon hl2 (sm _ _ ht.1 hs.1) (sm _ _ hl.2 hs.2) (sm _ _ ht.2 hs.2) sx
      have e : (ptK P d u).2 = ly := hon
      rw [e]
      subst hy1
      have e8 : Hid (bits .and .i64 (cx + 4 * 1) 8 = 0) := by show _ = _; rcases hcx with rfl | rfl | rfl <;> decide
      have e4 : Hid (bits .and .i64 (cx + 4 * 1) 4 = 4) := by show _ = _; rcases hcx with rfl | rfl | rfl <;> decide
      exact isect_bottom _ lx ly hx hy _ _ _ _ _ hl2 hs1 hs2 ht1 ht2 e8 e4 ha w
end Go.Proofs.Ytafanlbfbfbeoaa
