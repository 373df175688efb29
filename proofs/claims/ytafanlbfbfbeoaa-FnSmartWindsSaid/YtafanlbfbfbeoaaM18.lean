/- What the proofs over smartclip lean on, part 19 of 48. -/
import Derived.Test.YtafanlbfbfbeoaaM08
import Derived.Sort.LotC
import Derived.Deep.LoopGhost
import Derived.Deep.DeepCutAuto
import Derived.Deep.CutBlock

/- The sort's partitions. -/
namespace Go.Proofs.Ytafanlbfbfbeoaa
open Go.RowKit

section
variable {α : Type} [Inhabited α]
theorem scanUp_go (p : α → Bool) (d : Array α) (j i : Nat) (h : i ≤ j) (hp : p d[i]! = true) : Sort.scanUp p d j i = Sort.scanUp p d j (i + 1) := by
  rw [Sort.scanUp, if_pos (by simp [h, hp])]
theorem scanUp_end (p : α → Bool) (d : Array α) (j i : Nat) (h : ¬ i ≤ j ∨ p d[i]! = false) : Sort.scanUp p d j i = i := by
  rw [Sort.scanUp, if_neg (by rcases h with h | h <;> simp [h])]
theorem scanDown_go (p : α → Bool) (d : Array α) (i j : Nat) (h : i ≤ j + 1) (hp : p d[j + 1]! = true) : Sort.scanDown p d i (j + 1) = Sort.scanDown p d i j := by
  rw [Sort.scanDown, if_pos (by simp [h, hp])]
theorem scanDown_end (p : α → Bool) (d : Array α) (i j : Nat) (h : ¬ i ≤ j ∨ p d[j]! = false) : Sort.scanDown p d i j = j := by
  cases j with
  | zero => rfl
  | succ k => rw [Sort.scanDown, if_neg (by rcases h with h | h <;> simp [h])]
end

section
variable {T : TypeId} {rv : Value} {gn gl gs : Nat} {rn rl rs : Value} {lt : Nat → Nat → Bool} {n : Nat} {own : Nat → Prop} {R : Array Nat → World → Prop} {RW : World → Prop}

set_option maxRecDepth 100000 in
set_option maxHeartbeats 4000000 in
theorem partitionEqual_any (S : SortI T rv gn gl gs rn rl rs lt n own R RW) (a b pivot : Nat) (d : Array Nat) (w : World) (hR : R d w) (hap : a ≤ pivot) (hpb : pivot < b) (hb : b ≤ n) (hsz : n < 1000000) :
    Calls Try.prog 76 #[.iface T rv, .int .i64 a, .int .i64 b, .int .i64 pivot] w fun e w' => e = .returned (.int .i64 (Sort.partitionEqual lt d a b pivot).1) ∧ R (Sort.partitionEqual lt d a b pivot).2 w' ∧ KeepsB own w w' := by
  have eL := S.el; have eS := S.es
  have m1 := S.ms _ (S.rw hR)
  have hs := S.swap hR a pivot (by omega) (by omega)
  go_enter Try.func76, Try.ntmps76
  go_wp2_with fail
  (with_reducible refine hs.mono ?_)
  rintro e w1 ⟨rfl, hR1, hk1⟩
  clear hs m1 hR
  go_wp2_with fail
  go_loopw [9, 10] (fun vi vj wr => ∃ (i j : Nat) (dk : Array Nat), vi = .int .i64 i ∧ vj = .int .i64 j ∧ a < i ∧ i ≤ j + 1 ∧ j < b ∧ R dk wr ∧ KeepsB own w wr ∧ Hid (Sort.partEqLoop lt a i j dk = Sort.partEqLoop lt a (a + 1) (b - 1) (Sort.swp d a pivot)))
    (fun vi vj _ => (intOf vj).toNat + 1 - (intOf vi).toNat)
  case atStart => exact ⟨a + 1, b - 1, _, by go_num, by go_num, by omega, by omega, by omega, hR1, hk1, rfl⟩
  case round =>
    clear hR1 hk1
    obtain ⟨i, j, dk, rfl, rfl, hai, hij, hjb, hRk, hK, HE⟩ := hrel
    go_upto_block 2 with fail
    go_cut [9] (fun v wc => ∃ k : Nat, v = .int .i64 k ∧ i ≤ k ∧ k ≤ j + 1 ∧ R dk wc ∧ KeepsB own w wc ∧ Hid (k = Sort.scanUp (fun x => !lt dk[a]! x) dk j i))
    case first =>
      go_wp2_with fail
      go_loopw [9] (fun v wr => ∃ k : Nat, v = .int .i64 k ∧ i ≤ k ∧ k ≤ j + 1 ∧ R dk wr ∧ KeepsB own w wr ∧ Hid (Sort.scanUp (fun x => !lt dk[a]! x) dk j k = Sort.scanUp (fun x => !lt dk[a]! x) dk j i)) (fun v _ => j + 1 - (intOf v).toNat)
      case atStart => exact ⟨i, rfl, Nat.le_refl _, hij, hRk, hK, rfl⟩
      case round =>
        clear hRk hK
        obtain ⟨k, rfl, hk1, hk2, hRk, hK, HS⟩ := hrel
        by_cases hle : k ≤ j
        · have m0 := S.ml _ (S.rw hRk)
          have hl := S.less hRk a k (by omega) (by omega) (by omega)
          cases hlv : lt dk[a]! dk[k]! with
          | false =>
            rw [hlv] at hl
            have HS2 : Hid (Sort.scanUp (fun x => !lt dk[a]! x) dk j (k + 1) = Sort.scanUp (fun x => !lt dk[a]! x) dk j i) := by
              show _ = _
              rw [← HS.out]
              exact (scanUp_go (fun x => !lt dk[a]! x) dk j k hle (by simp [hlv])).symm
            clear HS
            go_wp2_with fail
            (with_reducible refine hl.mono ?_)
            rintro e w2 ⟨rfl, hb2⟩
            go_wp2_with fail
            go_roundw
            case rel => exact ⟨(k + 1), by go_num, by omega, by omega, S.below hRk hb2, hK.trans (KeepsB.of hb2), HS2⟩
            case measure => simp [intOf]; omega
          | true =>
            rw [hlv] at hl
            have HS2 : Hid (k = Sort.scanUp (fun x => !lt dk[a]! x) dk j i) := by show _ = _; rw [← HS.out]; exact (scanUp_end (fun x => !lt dk[a]! x) dk j k (.inr (by simp [hlv]))).symm
            clear HS
            go_wp2_with fail
            (with_reducible refine hl.mono ?_)
            rintro e w2 ⟨rfl, hb2⟩
            go_wp2_with fail
            go_meet
            exact ⟨k, rfl, hk1, hk2, S.below hRk hb2, hK.trans (KeepsB.of hb2), HS2⟩
        · have HS2 : Hid (k = Sort.scanUp (fun x => !lt dk[a]! x) dk j i) := by show _ = _; rw [← HS.out]; exact (scanUp_end (fun x => !lt dk[a]! x) dk j k (.inl hle)).symm
          clear HS
          go_wp2_with fail
          go_meet
          exact ⟨k, rfl, hk1, hk2, hRk, hK, HS2⟩
    case rest =>
      clear hRk hK
      obtain ⟨i2, rfl, hi1, hij2, hRk, hK, HI⟩ := hcut
      go_upto_block 4 with fail
      go_cut [10] (fun v wc => ∃ k : Nat, v = .int .i64 k ∧ k ≤ j ∧ i2 ≤ k + 1 ∧ R dk wc ∧ KeepsB own w wc ∧ Hid (k = Sort.scanDown (fun x => lt dk[a]! x) dk i2 j))
      case first =>
        go_wp2_with fail
        go_loopw [10] (fun v wr => ∃ k : Nat, v = .int .i64 k ∧ k ≤ j ∧ i2 ≤ k + 1 ∧ R dk wr ∧ KeepsB own w wr ∧ Hid (Sort.scanDown (fun x => lt dk[a]! x) dk i2 k = Sort.scanDown (fun x => lt dk[a]! x) dk i2 j)) (fun v _ => (intOf v).toNat)
        case atStart => exact ⟨j, rfl, Nat.le_refl _, hij2, hRk, hK, rfl⟩
        case round =>
          clear hRk hK
          obtain ⟨k, rfl, hk1, hk2, hRk, hK, HS⟩ := hrel
          by_cases hle : i2 ≤ k
          · have m0 := S.ml _ (S.rw hRk)
            have hl := S.less hRk a k (by omega) (by omega) (by omega)
            cases hlv : lt dk[a]! dk[k]! with
            | true =>
              rw [hlv] at hl
              have HS2 : Hid (Sort.scanDown (fun x => lt dk[a]! x) dk i2 (k - 1) = Sort.scanDown (fun x => lt dk[a]! x) dk i2 j) := by
                show _ = _
                rw [← HS.out]
                obtain ⟨k', rfl⟩ : ∃ k', k = k' + 1 := ⟨k - 1, by omega⟩
                exact (scanDown_go (fun x => lt dk[a]! x) dk i2 k' hle (by simp [hlv])).symm
              clear HS
              go_wp2_with fail
              (with_reducible refine hl.mono ?_)
              rintro e w2 ⟨rfl, hb2⟩
              go_wp2_with fail
              go_roundw
              case rel => exact ⟨(k - 1), by go_num, by omega, by omega, S.below hRk hb2, hK.trans (KeepsB.of hb2), HS2⟩
              case measure => simp [intOf]; omega
            | false =>
              rw [hlv] at hl
              have HS2 : Hid (k = Sort.scanDown (fun x => lt dk[a]! x) dk i2 j) := by show _ = _; rw [← HS.out]; exact (scanDown_end (fun x => lt dk[a]! x) dk i2 k (.inr (by simp [hlv]))).symm
              clear HS
              go_wp2_with fail
              (with_reducible refine hl.mono ?_)
              rintro e w2 ⟨rfl, hb2⟩
              go_wp2_with fail
              go_meet
              exact ⟨k, rfl, hk1, hk2, S.below hRk hb2, hK.trans (KeepsB.of hb2), HS2⟩
          · have HS2 : Hid (k = Sort.scanDown (fun x => lt dk[a]! x) dk i2 j) := by show _ = _; rw [← HS.out]; exact (scanDown_end (fun x => lt dk[a]! x) dk i2 k (.inl hle)).symm
            clear HS
            go_wp2_with fail
            go_meet
            exact ⟨k, rfl, hk1, hk2, hRk, hK, HS2⟩
      case rest =>
        clear hRk hK
        obtain ⟨j2, rfl, hj1, hj2, hRk, hK, HJ⟩ := hcut
        by_cases hgt : i2 > j2
        · have HE2 : Hid (Sort.partitionEqual lt d a b pivot = (i2, dk)) := by
            show _ = _
            unfold Sort.partitionEqual
            rw [← HE.out, Sort.partEqLoop_eq, ← HI.out, ← HJ.out, if_pos hgt]
          clear HE HI HJ
          go_wp2_with fail
          go_ret
          rw [HE2.out]
          exact ⟨rfl, hRk, hK⟩
        · have HE2 : Hid (Sort.partEqLoop lt a (i2 + 1) (j2 - 1) (Sort.swp dk i2 j2) = Sort.partEqLoop lt a (a + 1) (b - 1) (Sort.swp d a pivot)) := by
            show _ = _
            rw [← HE.out, Sort.partEqLoop_eq lt a i j, ← HI.out, ← HJ.out, if_neg hgt]
          have hne : i2 < j2 := by
            rcases Nat.lt_or_ge i2 j2 with h | h
            · exact h
            · exfalso
              obtain ⟨_, _, _, u4⟩ := Sort.scanUp_spec (fun x => !lt dk[a]! x) dk j _ i rfl
              obtain ⟨_, _, _, v4⟩ := Sort.scanDown_spec (fun x => lt dk[a]! x) dk i2 j
              rw [← HI.out] at u4
              rw [← HJ.out] at v4
              have f1 := u4 (by omega)
              have f2 := v4 (by omega) (by omega)
              obtain rfl : i2 = j2 := by omega
              simp only [f2] at f1
              cases f1
          have m1 := S.ms _ (S.rw hRk)
          have hs := S.swap hRk i2 j2 (by omega) (by omega)
          clear HE HI HJ
          go_wp2_with fail
          (with_reducible refine hs.mono ?_)
          rintro e w3 ⟨rfl, hR3, hk3⟩
          go_wp2_with fail
          go_roundw
          case rel => exact ⟨i2 + 1, j2 - 1, _, by go_num, by go_num, by omega, by omega, by omega, hR3, hK.trans hk3, HE2⟩
          case measure => simp [intOf]; omega
end
end Go.Proofs.Ytafanlbfbfbeoaa
