/- What the proofs over smartclip lean on, part 18 of 48. -/
import Derived.Test.YtafanlbfbfbeoaaM08
import Derived.Sort.LotB
import Derived.Deep.LoopGhost

/- The sort's heap. -/
namespace Go.Proofs.Ytafanlbfbfbeoaa
open Go.RowKit

section
variable {α : Type} [Inhabited α] (lt : α → α → Bool) {hi first root : Nat} (d : Array α)
theorem sd_end (h : hi ≤ 2 * root + 1) : Sort.siftDown lt hi first root d = d := by
  rw [Sort.siftDown, dif_pos (by omega)]
theorem sd_right_stop (h : 2 * root + 2 < hi) (hl : lt d[first + (2 * root + 1)]! d[first + (2 * root + 2)]! = true) (hg : lt d[first + root]! d[first + (2 * root + 2)]! = false) : Sort.siftDown lt hi first root d = d := by
  rw [Sort.siftDown, dif_neg (by omega), if_pos (by rw [show first + (2 * root + 1) + 1 = first + (2 * root + 2) by omega]; simp [hl]; omega), if_pos (by simp [hg])]
theorem sd_right_go (h : 2 * root + 2 < hi) (hl : lt d[first + (2 * root + 1)]! d[first + (2 * root + 2)]! = true) (hg : lt d[first + root]! d[first + (2 * root + 2)]! = true) :
    Sort.siftDown lt hi first root d = Sort.siftDown lt hi first (2 * root + 2) (Sort.swp d (first + root) (first + (2 * root + 2))) := by
  rw [Sort.siftDown, dif_neg (by omega), if_pos (by rw [show first + (2 * root + 1) + 1 = first + (2 * root + 2) by omega]; simp [hl]; omega), if_neg (by simp [hg]), dif_pos h]
theorem sd_left_stop (h0 : ¬ hi ≤ 2 * root + 1) (hl : ¬ 2 * root + 2 < hi ∨ lt d[first + (2 * root + 1)]! d[first + (2 * root + 2)]! = false) (hg : lt d[first + root]! d[first + (2 * root + 1)]! = false) : Sort.siftDown lt hi first root d = d := by
  rw [Sort.siftDown, dif_neg (by omega), if_neg (by rw [show first + (2 * root + 1) + 1 = first + (2 * root + 2) by omega]; rcases hl with hl | hl <;> simp [hl]), if_pos (by simp [hg])]
theorem sd_left_go (h0 : ¬ hi ≤ 2 * root + 1) (hl : ¬ 2 * root + 2 < hi ∨ lt d[first + (2 * root + 1)]! d[first + (2 * root + 2)]! = false) (hg : lt d[first + root]! d[first + (2 * root + 1)]! = true) :
    Sort.siftDown lt hi first root d = Sort.siftDown lt hi first (2 * root + 1) (Sort.swp d (first + root) (first + (2 * root + 1))) := by
  rw [Sort.siftDown, dif_neg (by omega), if_neg (by rw [show first + (2 * root + 1) + 1 = first + (2 * root + 2) by omega]; rcases hl with hl | hl <;> simp [hl]), if_neg (by simp [hg])]
end

section
variable {T : TypeId} {rv : Value} {gn gl gs : Nat} {rn rl rs : Value} {lt : Nat → Nat → Bool} {n : Nat} {own : Nat → Prop} {R : Array Nat → World → Prop} {RW : World → Prop}

set_option maxRecDepth 100000 in
set_option maxHeartbeats 4000000 in
theorem siftDown_any (S : SortI T rv gn gl gs rn rl rs lt n own R RW) (lo hi first : Nat) (d : Array Nat) (w : World) (hR : R d w) (hlo : lo ≤ hi) (hb : first + hi ≤ n) (hsz : n < 1000000) :
    Calls Try.prog 78 #[.iface T rv, .int .i64 lo, .int .i64 hi, .int .i64 first] w fun e w' => e = .returned (.tuple #[]) ∧ R (Sort.siftDown lt hi first lo d) w' ∧ KeepsB own w w' := by
  have eL := S.el; have eS := S.es
  go_enter Try.func78, Try.ntmps78
  go_wp2
  go_loopg [8] (hi - lo) (fun kx s8 wr => ∃ (root : Nat) (dk : Array Nat), s8 = .int .i64 root ∧ root ≤ hi ∧ hi - root ≤ kx ∧ R dk wr ∧ KeepsB own w wr ∧ Hid (Sort.siftDown lt hi first root dk = Sort.siftDown lt hi first lo d))
  case atStart => exact ⟨lo, d, rfl, hlo, Nat.le_refl _, hR, KeepsB.refl _ _, rfl⟩
  case round =>
    obtain ⟨root, dk, rfl, hr, hkx, hRk, hK, HE⟩ := hrel
    clear hR
    have m0 := S.ml _ (S.rw hRk)
    by_cases h0 : hi ≤ 2 * root + 1
    · have h0z : (hi : Int) ≤ 2 * (root : Int) + 1 := by omega
      have HE2 : Hid (dk = Sort.siftDown lt hi first lo d) := by show _ = _; rw [← HE.out, sd_end lt dk h0]
      clear HE
      go_wp2
      go_end0
      exact ⟨rfl, by rw [← HE2.out]; exact hRk, hK⟩
    · have h0z : ¬ ((hi : Int) ≤ 2 * (root : Int) + 1) := by omega
      by_cases h1 : 2 * root + 2 < hi
      · have h1z : 2 * (root : Int) + 1 + 1 < (hi : Int) := by omega
        cases hL : lt dk[first + (2 * root + 1)]! dk[first + (2 * root + 2)]! with
        | true =>
          cases hG : lt dk[first + root]! dk[first + (2 * root + 2)]! with
          | true =>
            have hl1 := fun W (h : R dk W) => S.less h (first + (2 * root + 1)) (first + (2 * root + 2)) (by omega) (by omega) (by omega)
            rw [show (((first + (2 * root + 1)) : Nat) : Int) = (first : Int) + (2 * (root : Int) + 1) by omega, show (((first + (2 * root + 2)) : Nat) : Int) = (first : Int) + (2 * (root : Int) + 1) + 1 by omega, hL] at hl1
            have hl2 := fun W (h : R dk W) => S.less h (first + root) (first + (2 * root + 2)) (by omega) (by omega) (by omega)
            rw [show (((first + root) : Nat) : Int) = (first : Int) + (root : Int) by omega, show (((first + (2 * root + 2)) : Nat) : Int) = (first : Int) + (2 * (root : Int) + 1 + 1) by omega, hG] at hl2
            have hs := fun W (h : R dk W) => S.swap h (first + root) (first + (2 * root + 2)) (by omega) (by omega)
            rw [show (((first + root) : Nat) : Int) = (first : Int) + (root : Int) by omega, show (((first + (2 * root + 2)) : Nat) : Int) = (first : Int) + (2 * (root : Int) + 1 + 1) by omega] at hs
            have HE2 : Hid (Sort.siftDown lt hi first (2 * root + 2) (Sort.swp dk (first + root) (first + (2 * root + 2))) = Sort.siftDown lt hi first lo d) := by show _ = _; rw [← HE.out, sd_right_go lt dk h1 hL hG]
            clear HE hL hG
            go_wp2_with fail
            (with_reducible refine (hl1 _ hRk).mono ?_)
            rintro e w1 ⟨rfl, hb1⟩
            have hR1 := S.below hRk hb1
            have hK1 := hK.trans (KeepsB.of hb1)
            have m1 := S.ml _ (S.rw hR1)
            go_wp2_with fail
            (with_reducible refine (hl2 _ hR1).mono ?_)
            rintro e w2 ⟨rfl, hb2⟩
            have hR2 := S.below hR1 hb2
            have hK2 := hK1.trans (KeepsB.of hb2)
            have m2 := S.ms _ (S.rw hR2)
            go_wp2_with fail
            (with_reducible refine (hs _ hR2).mono ?_)
            rintro e w3 ⟨rfl, hR3, hk3⟩
            have hK3 := hK2.trans hk3
            go_wp2_with fail
            go_roundg (hi - (2 * root + 2))
            case measure => omega
            case rel => exact ⟨2 * root + 2, _, by congr 1, by omega, Nat.le_refl _, hR3, hK3, HE2⟩
          | false =>
            have hl1 := fun W (h : R dk W) => S.less h (first + (2 * root + 1)) (first + (2 * root + 2)) (by omega) (by omega) (by omega)
            rw [show (((first + (2 * root + 1)) : Nat) : Int) = (first : Int) + (2 * (root : Int) + 1) by omega, show (((first + (2 * root + 2)) : Nat) : Int) = (first : Int) + (2 * (root : Int) + 1) + 1 by omega, hL] at hl1
            have hl2 := fun W (h : R dk W) => S.less h (first + root) (first + (2 * root + 2)) (by omega) (by omega) (by omega)
            rw [show (((first + root) : Nat) : Int) = (first : Int) + (root : Int) by omega, show (((first + (2 * root + 2)) : Nat) : Int) = (first : Int) + (2 * (root : Int) + 1 + 1) by omega, hG] at hl2
            have HE2 : Hid (dk = Sort.siftDown lt hi first lo d) := by show _ = _; rw [← HE.out, sd_right_stop lt dk h1 hL hG]
            clear HE hL hG
            go_wp2_with fail
            (with_reducible refine (hl1 _ hRk).mono ?_)
            rintro e w1 ⟨rfl, hb1⟩
            have hR1 := S.below hRk hb1
            have hK1 := hK.trans (KeepsB.of hb1)
            have m1 := S.ml _ (S.rw hR1)
            go_wp2_with fail
            (with_reducible refine (hl2 _ hR1).mono ?_)
            rintro e w2 ⟨rfl, hb2⟩
            have hR2 := S.below hR1 hb2
            have hK2 := hK1.trans (KeepsB.of hb2)
            have m2 := S.ms _ (S.rw hR2)
            go_wp2_with fail
            refine bodyPost_ret (results_none rfl _ _ _) rfl ?_
            exact ⟨rfl, by rw [← HE2.out]; exact hR2, hK2⟩
        | false =>
          cases hG : lt dk[first + root]! dk[first + (2 * root + 1)]! with
          | true =>
            have hl1 := fun W (h : R dk W) => S.less h (first + (2 * root + 1)) (first + (2 * root + 2)) (by omega) (by omega) (by omega)
            rw [show (((first + (2 * root + 1)) : Nat) : Int) = (first : Int) + (2 * (root : Int) + 1) by omega, show (((first + (2 * root + 2)) : Nat) : Int) = (first : Int) + (2 * (root : Int) + 1) + 1 by omega, hL] at hl1
            have hl2 := fun W (h : R dk W) => S.less h (first + root) (first + (2 * root + 1)) (by omega) (by omega) (by omega)
            rw [show (((first + root) : Nat) : Int) = (first : Int) + (root : Int) by omega, show (((first + (2 * root + 1)) : Nat) : Int) = (first : Int) + (2 * (root : Int) + 1) by omega, hG] at hl2
            have hs := fun W (h : R dk W) => S.swap h (first + root) (first + (2 * root + 1)) (by omega) (by omega)
            rw [show (((first + root) : Nat) : Int) = (first : Int) + (root : Int) by omega, show (((first + (2 * root + 1)) : Nat) : Int) = (first : Int) + (2 * (root : Int) + 1) by omega] at hs
            have HE2 : Hid (Sort.siftDown lt hi first (2 * root + 1) (Sort.swp dk (first + root) (first + (2 * root + 1))) = Sort.siftDown lt hi first lo d) := by show _ = _; rw [← HE.out, sd_left_go lt dk h0 (.inr hL) hG]
            clear HE hL hG
            go_wp2_with fail
            (with_reducible refine (hl1 _ hRk).mono ?_)
            rintro e w1 ⟨rfl, hb1⟩
            have hR1 := S.below hRk hb1
            have hK1 := hK.trans (KeepsB.of hb1)
            have m1 := S.ml _ (S.rw hR1)
            go_wp2_with fail
            (with_reducible refine (hl2 _ hR1).mono ?_)
            rintro e w2 ⟨rfl, hb2⟩
            have hR2 := S.below hR1 hb2
            have hK2 := hK1.trans (KeepsB.of hb2)
            have m2 := S.ms _ (S.rw hR2)
            go_wp2_with fail
            (with_reducible refine (hs _ hR2).mono ?_)
            rintro e w3 ⟨rfl, hR3, hk3⟩
            have hK3 := hK2.trans hk3
            go_wp2_with fail
            go_roundg (hi - (2 * root + 1))
            case measure => omega
            case rel => exact ⟨2 * root + 1, _, by congr 1, by omega, Nat.le_refl _, hR3, hK3, HE2⟩
          | false =>
            have hl1 := fun W (h : R dk W) => S.less h (first + (2 * root + 1)) (first + (2 * root + 2)) (by omega) (by omega) (by omega)
            rw [show (((first + (2 * root + 1)) : Nat) : Int) = (first : Int) + (2 * (root : Int) + 1) by omega, show (((first + (2 * root + 2)) : Nat) : Int) = (first : Int) + (2 * (root : Int) + 1) + 1 by omega, hL] at hl1
            have hl2 := fun W (h : R dk W) => S.less h (first + root) (first + (2 * root + 1)) (by omega) (by omega) (by omega)
            rw [show (((first + root) : Nat) : Int) = (first : Int) + (root : Int) by omega, show (((first + (2 * root + 1)) : Nat) : Int) = (first : Int) + (2 * (root : Int) + 1) by omega, hG] at hl2
            have HE2 : Hid (dk = Sort.siftDown lt hi first lo d) := by show _ = _; rw [← HE.out, sd_left_stop lt dk h0 (.inr hL) hG]
            clear HE hL hG
            go_wp2_with fail
            (with_reducible refine (hl1 _ hRk).mono ?_)
            rintro e w1 ⟨rfl, hb1⟩
            have hR1 := S.below hRk hb1
            have hK1 := hK.trans (KeepsB.of hb1)
            have m1 := S.ml _ (S.rw hR1)
            go_wp2_with fail
            (with_reducible refine (hl2 _ hR1).mono ?_)
            rintro e w2 ⟨rfl, hb2⟩
            have hR2 := S.below hR1 hb2
            have hK2 := hK1.trans (KeepsB.of hb2)
            have m2 := S.ms _ (S.rw hR2)
            go_wp2_with fail
            refine bodyPost_ret (results_none rfl _ _ _) rfl ?_
            exact ⟨rfl, by rw [← HE2.out]; exact hR2, hK2⟩
      · have h1z : ¬ 2 * (root : Int) + 1 + 1 < (hi : Int) := by omega
        cases hG : lt dk[first + root]! dk[first + (2 * root + 1)]! with
        | true =>
          have hl2 := fun W (h : R dk W) => S.less h (first + root) (first + (2 * root + 1)) (by omega) (by omega) (by omega)
          rw [show (((first + root) : Nat) : Int) = (first : Int) + (root : Int) by omega, show (((first + (2 * root + 1)) : Nat) : Int) = (first : Int) + (2 * (root : Int) + 1) by omega, hG] at hl2
          have hs := fun W (h : R dk W) => S.swap h (first + root) (first + (2 * root + 1)) (by omega) (by omega)
          rw [show (((first + root) : Nat) : Int) = (first : Int) + (root : Int) by omega, show (((first + (2 * root + 1)) : Nat) : Int) = (first : Int) + (2 * (root : Int) + 1) by omega] at hs
          have HE2 : Hid (Sort.siftDown lt hi first (2 * root + 1) (Sort.swp dk (first + root) (first + (2 * root + 1))) = Sort.siftDown lt hi first lo d) := by show _ = _; rw [← HE.out, sd_left_go lt dk h0 (.inl h1) hG]
          clear HE hG
          go_wp2_with fail
          (with_reducible refine (hl2 _ hRk).mono ?_)
          rintro e w2 ⟨rfl, hb2⟩
          have hR2 := S.below hRk hb2
          have hK2 := hK.trans (KeepsB.of hb2)
          have m2 := S.ms _ (S.rw hR2)
          go_wp2_with fail
          (with_reducible refine (hs _ hR2).mono ?_)
          rintro e w3 ⟨rfl, hR3, hk3⟩
          have hK3 := hK2.trans hk3
          go_wp2_with fail
          go_roundg (hi - (2 * root + 1))
          case measure => omega
          case rel => exact ⟨2 * root + 1, _, by congr 1, by omega, Nat.le_refl _, hR3, hK3, HE2⟩
        | false =>
          have hl2 := fun W (h : R dk W) => S.less h (first + root) (first + (2 * root + 1)) (by omega) (by omega) (by omega)
          rw [show (((first + root) : Nat) : Int) = (first : Int) + (root : Int) by omega, show (((first + (2 * root + 1)) : Nat) : Int) = (first : Int) + (2 * (root : Int) + 1) by omega, hG] at hl2
          have HE2 : Hid (dk = Sort.siftDown lt hi first lo d) := by show _ = _; rw [← HE.out, sd_left_stop lt dk h0 (.inl h1) hG]
          clear HE hG
          go_wp2_with fail
          (with_reducible refine (hl2 _ hRk).mono ?_)
          rintro e w2 ⟨rfl, hb2⟩
          have hR2 := S.below hRk hb2
          have hK2 := hK.trans (KeepsB.of hb2)
          have m2 := S.ms _ (S.rw hR2)
          go_wp2_with fail
          refine bodyPost_ret (results_none rfl _ _ _) rfl ?_
          exact ⟨rfl, by rw [← HE2.out]; exact hR2, hK2⟩
end

section
variable {α : Type} [Inhabited α] (lt : α → α → Bool)
theorem heapBuild_go (hi first k : Nat) (d : Array α) : Sort.heapBuild lt hi first (k + 1) d = Sort.heapBuild lt hi first k (Sort.siftDown lt hi first k d) := rfl
theorem heapPop_go (first k : Nat) (d : Array α) : Sort.heapPop lt first (k + 1) d = Sort.heapPop lt first k (Sort.siftDown lt k first 0 (Sort.swp d first (first + k))) := rfl
end

section
variable {T : TypeId} {rv : Value} {gn gl gs : Nat} {rn rl rs : Value} {lt : Nat → Nat → Bool} {n : Nat} {own : Nat → Prop} {R : Array Nat → World → Prop} {RW : World → Prop}

set_option maxRecDepth 100000 in
set_option maxHeartbeats 2000000 in
theorem heapSort_any (S : SortI T rv gn gl gs rn rl rs lt n own R RW) (a b : Nat) (d : Array Nat) (w : World) (hR : R d w) (hab : a ≤ b) (hb : b ≤ n) (hsz : n < 1000000) :
    Calls Try.prog 71 #[.iface T rv, .int .i64 a, .int .i64 b] w fun e w' => e = .returned (.tuple #[]) ∧ R (Sort.heapSort lt d a b) w' ∧ KeepsB own w w' := by
  have eS := S.es
  obtain ⟨hi, hhi⟩ : ∃ hi : Nat, hi = b - a := ⟨_, rfl⟩
  have ehi : (b : Int) - (a : Int) = (hi : Int) := by omega
  have HG : Hid (Sort.heapSort lt d a b = Sort.heapPop lt a hi (Sort.heapBuild lt hi a ((hi - 1) / 2 + 1) d)) := by rw [hhi]; rfl
  have hhn : a + hi ≤ n := by omega
  clear hhi
  go_enter Try.func71, Try.ntmps71
  go_wp2
  obtain ⟨m0, hm0⟩ : ∃ m : Nat, m = (hi - 1) / 2 + 1 := ⟨_, rfl⟩
  have hmz : ((hi : Int) - 1).tdiv 2 = (m0 : Int) - 1 := by
    rw [hm0]
    by_cases h : hi = 0
    · subst h; decide
    · rw [Int.tdiv_eq_ediv_of_nonneg (by omega)]; omega
  have hm0l : m0 ≤ hi + 1 := by omega
  rw [← hm0] at HG
  go_loopg [9] m0 (fun kx s9 wr => ∃ (k : Nat) (dk : Array Nat), s9 = .int .i64 ((k : Int) - 1) ∧ k ≤ kx ∧ k ≤ m0 ∧ R dk wr ∧ KeepsB own w wr ∧ Hid (Sort.heapBuild lt hi a k dk = Sort.heapBuild lt hi a m0 d))
  case atStart => exact ⟨m0, d, by simp [← hmz], Nat.le_refl _, Nat.le_refl _, hR, KeepsB.refl _ _, rfl⟩
  case round =>
    obtain ⟨k, dk, rfl, hkx, hkm, hRk, hK, HE⟩ := hrel
    clear hmz
    by_cases hk0 : k = 0
    · subst hk0
      have HE2 : Hid (dk = Sort.heapBuild lt hi a m0 d) := HE
      clear HE
      have hng : ¬ (0 : Int) ≤ ((0 : Nat) : Int) - 1 := by omega
      go_wp2_with fail
      go_loopg [10] hi (fun kx s10 wr2 => ∃ (k : Nat) (dj : Array Nat), s10 = .int .i64 ((k : Int) - 1) ∧ k ≤ kx ∧ k ≤ hi ∧ R dj wr2 ∧ KeepsB own w wr2 ∧ Hid (Sort.heapPop lt a k dj = Sort.heapPop lt a hi dk))
      case atStart => exact ⟨hi, dk, rfl, Nat.le_refl _, Nat.le_refl _, hRk, hK, rfl⟩
      case round =>
        clear hRk hK
        obtain ⟨k, dj, rfl, hkx, hkh, hRj, hK, HP⟩ := hrel
        by_cases hk0 : k = 0
        · subst hk0
          have HP2 : Hid (dj = Sort.heapSort lt d a b) := by show _ = _; rw [HG.out, ← HE2.out]; exact HP.out
          clear HP HG HE2
          have hng : ¬ (0 : Int) ≤ ((0 : Nat) : Int) - 1 := by omega
          go_wp2_with fail
          go_end0
          exact ⟨rfl, by rw [← HP2.out]; exact hRj, hK⟩
        · obtain ⟨j, rfl⟩ : ∃ j, k = j + 1 := ⟨k - 1, by omega⟩
          have m1 := S.ms _ (S.rw hRj)
          have hs := S.swap hRj a (a + j) (by omega) (by omega)
          have e1 : ((j + 1 : Nat) : Int) - 1 = (j : Int) := by omega
          rw [show ((a + j : Nat) : Int) = (a : Int) + (j : Int) by omega] at hs
          have hsd := fun W (h : R (Sort.swp dj a (a + j)) W) => siftDown_any S 0 j a _ W h (by omega) (by omega) hsz
          have HP2 : Hid (Sort.heapPop lt a j (Sort.siftDown lt j a 0 (Sort.swp dj a (a + j))) = Sort.heapPop lt a hi dk) := HP
          clear HP
          go_wp2_with fail
          (with_reducible refine hs.mono ?_)
          rintro e w3 ⟨rfl, hR3, hk3⟩
          have hK3 := hK.trans hk3
          go_wp2_with fail
          refine (hsd _ hR3).mono ?_
          rintro e w4 ⟨rfl, hR4, hk4⟩
          have hK4 := hK3.trans hk4
          go_wp2_with fail
          go_roundg j
          case measure => omega
          case rel => exact ⟨j, _, rfl, Nat.le_refl _, by omega, hR4, hK4, HP2⟩
    · obtain ⟨j, rfl⟩ : ∃ j, k = j + 1 := ⟨k - 1, by omega⟩
      have e1 : ((j + 1 : Nat) : Int) - 1 = (j : Int) := by omega
      have hsd := siftDown_any S j hi a dk _ hRk (by omega) hhn hsz
      have HE2 : Hid (Sort.heapBuild lt hi a j (Sort.siftDown lt hi a j dk) = Sort.heapBuild lt hi a m0 d) := HE
      clear HE
      go_wp2_with fail
      (with_reducible refine hsd.mono ?_)
      rintro e w4 ⟨rfl, hR4, hk4⟩
      have hK4 := hK.trans hk4
      go_wp2_with fail
      go_roundg j
      case measure => omega
      case rel => exact ⟨j, _, rfl, Nat.le_refl _, by omega, hR4, hK4, HE2⟩

theorem reverseLoop_stop {α : Type} [Inhabited α] {i j : Nat} (h : ¬ i < j) (d : Array α) : Sort.reverseLoop i j d = d := by rw [Sort.reverseLoop, if_neg h]
theorem reverseLoop_go {α : Type} [Inhabited α] {i j : Nat} (h : i < j) (d : Array α) : Sort.reverseLoop i j d = Sort.reverseLoop (i + 1) (j - 1) (Sort.swp d i j) := by rw [Sort.reverseLoop, if_pos h]

set_option maxRecDepth 100000 in
set_option maxHeartbeats 2000000 in
theorem reverseRange_any (S : SortI T rv gn gl gs rn rl rs lt n own R RW) (a b : Nat) (d : Array Nat) (w : World) (hR : R d w) (hab : a ≤ b) (hb : b ≤ n) (hsz : n < 1000000) :
    Calls Try.prog 74 #[.iface T rv, .int .i64 a, .int .i64 b] w fun e w' => e = .returned (.tuple #[]) ∧ R (Sort.reverseRange d a b) w' ∧ KeepsB own w w' := by
  have eS := S.es
  go_enter Try.func74, Try.ntmps74
  go_wp2
  go_loopg [6, 7] (b - a) (fun kx s6 s7 wr => ∃ (i jn : Nat) (jz : Int) (dk : Array Nat), s6 = .int .i64 i ∧ s7 = .int .i64 jz ∧ ((i : Int) < jz → jz = jn ∧ jn < n) ∧ (¬ (i : Int) < jz → ¬ i < jn) ∧ jn - i ≤ kx ∧ jz ≤ n ∧ -10 ≤ jz ∧ i ≤ n + 10 ∧ R dk wr ∧ KeepsB own w wr ∧ Hid (Sort.reverseLoop i jn dk = Sort.reverseLoop a (b - 1) d))
  case atStart => exact ⟨a, b - 1, (b : Int) - 1, d, rfl, rfl, fun h => ⟨by omega, by omega⟩, fun h => by omega, by omega, by omega, by omega, by omega, hR, KeepsB.refl _ _, rfl⟩
  case round =>
    clear hR
    obtain ⟨i, jn, jz, dk, rfl, rfl, h1, h2, hk, hj1, hj2, hi2, hRk, hK, HE⟩ := hrel
    by_cases hlt : (i : Int) < jz
    · obtain ⟨rfl, hjn⟩ := h1 hlt
      have hij : i < jn := by omega
      have m1 := S.ms _ (S.rw hRk)
      have hs := S.swap hRk i jn (by omega) hjn
      have HE2 : Hid (Sort.reverseLoop (i + 1) (jn - 1) (Sort.swp dk i jn) = Sort.reverseLoop a (b - 1) d) := by show _ = _; rw [← HE.out, reverseLoop_go hij]
      clear HE h1 h2
      go_wp2_with fail
      (with_reducible refine hs.mono ?_)
      rintro e w3 ⟨rfl, hR3, hk3⟩
      have hK3 := hK.trans hk3
      go_wp2_with fail
      go_roundg (jn - 1 - (i + 1))
      case measure => omega
      case rel => exact ⟨i + 1, jn - 1, (jn : Int) - 1, _, by simp, rfl, fun h => ⟨by omega, by omega⟩, fun h => by omega, Nat.le_refl _, by omega, by omega, by omega, hR3, hK3, HE2⟩
    · have hnot := h2 hlt
      have HE2 : Hid (dk = Sort.reverseRange d a b) := by show _ = _; unfold Sort.reverseRange; rw [← HE.out, reverseLoop_stop hnot]
      clear HE h1 h2
      go_wp2_with fail
      go_end0
      exact ⟨rfl, by rw [← HE2.out]; exact hRk, hK⟩
end
end Go.Proofs.Ytafanlbfbfbeoaa
