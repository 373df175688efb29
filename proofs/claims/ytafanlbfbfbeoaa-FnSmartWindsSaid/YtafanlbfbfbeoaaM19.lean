/- What the proofs over smartclip lean on, part 20 of 48. -/
import Derived.Test.YtafanlbfbfbeoaaM18
import Derived.Sort.LotC
import Derived.Deep.LoopGhost
import Derived.Deep.DeepCutAuto
import Derived.Deep.CutBlock

/- The sort's partition. -/
namespace Go.Proofs.Ytafanlbfbfbeoaa
open Go.RowKit

section
variable {T : TypeId} {rv : Value} {gn gl gs : Nat} {rn rl rs : Value} {lt : Nat → Nat → Bool} {n : Nat} {own : Nat → Prop} {R : Array Nat → World → Prop} {RW : World → Prop}

set_option maxRecDepth 100000 in
set_option maxHeartbeats 8000000 in
theorem partition_any (S : SortI T rv gn gl gs rn rl rs lt n own R RW) (a b pivot : Nat) (d : Array Nat) (w : World) (hR : R d w) (hap : a ≤ pivot) (hpb : pivot < b) (hb : b ≤ n) (hsz : n < 1000000) :
    Calls Try.prog 77 #[.iface T rv, .int .i64 a, .int .i64 b, .int .i64 pivot] w fun e w' => e = .returned (.tuple #[.int .i64 (Sort.partition lt d a b pivot).1, .bool (Sort.partition lt d a b pivot).2.1]) ∧ R (Sort.partition lt d a b pivot).2.2 w' ∧ KeepsB own w w' := by
  have eL := S.el; have eS := S.es
  have m1 := S.ms _ (S.rw hR)
  have hs := S.swap hR a pivot (by omega) (by omega)
  go_enter Try.func77, Try.ntmps77
  go_wp2_with fail
  (with_reducible refine hs.mono ?_)
  rintro e w1 ⟨rfl, hRk, hK⟩
  clear hs m1 hR
  obtain ⟨i, hi⟩ : ∃ i, i = a + 1 := ⟨_, rfl⟩
  obtain ⟨j, hj⟩ : ∃ j, j = b - 1 := ⟨_, rfl⟩
  have ei : (a : Int) + 1 = (i : Int) := by omega
  have ej : (b : Int) - 1 = (j : Int) := by omega
  obtain ⟨dk, hdk⟩ : ∃ dk, dk = Sort.swp d a pivot := ⟨_, rfl⟩
  rw [← hdk] at hRk
  have HP : Hid (Sort.partition lt d a b pivot = if Sort.scanUp (fun x => lt x dk[a]!) dk j i > Sort.scanDown (fun x => !lt x dk[a]!) dk (Sort.scanUp (fun x => lt x dk[a]!) dk j i) j then (Sort.scanDown (fun x => !lt x dk[a]!) dk (Sort.scanUp (fun x => lt x dk[a]!) dk j i) j, true, Sort.swp dk (Sort.scanDown (fun x => !lt x dk[a]!) dk (Sort.scanUp (fun x => lt x dk[a]!) dk j i) j) a) else
    ((Sort.partLoop lt a (Sort.scanUp (fun x => lt x dk[a]!) dk j i + 1) (Sort.scanDown (fun x => !lt x dk[a]!) dk (Sort.scanUp (fun x => lt x dk[a]!) dk j i) j - 1) (Sort.swp dk (Sort.scanUp (fun x => lt x dk[a]!) dk j i) (Sort.scanDown (fun x => !lt x dk[a]!) dk (Sort.scanUp (fun x => lt x dk[a]!) dk j i) j))).1, false, Sort.swp (Sort.partLoop lt a (Sort.scanUp (fun x => lt x dk[a]!) dk j i + 1) (Sort.scanDown (fun x => !lt x dk[a]!) dk (Sort.scanUp (fun x => lt x dk[a]!) dk j i) j - 1) (Sort.swp dk (Sort.scanUp (fun x => lt x dk[a]!) dk j i) (Sort.scanDown (fun x => !lt x dk[a]!) dk (Sort.scanUp (fun x => lt x dk[a]!) dk j i) j))).2 (Sort.partLoop lt a (Sort.scanUp (fun x => lt x dk[a]!) dk j i + 1) (Sort.scanDown (fun x => !lt x dk[a]!) dk (Sort.scanUp (fun x => lt x dk[a]!) dk j i) j - 1) (Sort.swp dk (Sort.scanUp (fun x => lt x dk[a]!) dk j i) (Sort.scanDown (fun x => !lt x dk[a]!) dk (Sort.scanUp (fun x => lt x dk[a]!) dk j i) j))).1 a)) := by
    subst hdk hi hj
    rfl
  have hai : a < i := by omega
  have hij : i ≤ j + 1 := by omega
  have hjb : j < b := by omega
  clear hi hj hdk
  go_upto_block 0 with fail
  go_cut [10] (fun v wc => ∃ k : Nat, v = .int .i64 k ∧ i ≤ k ∧ k ≤ j + 1 ∧ R dk wc ∧ KeepsB own w wc ∧ Hid (k = Sort.scanUp (fun x => lt x dk[a]!) dk j i))
  case first =>
    go_wp2_with fail
    go_loopw [10] (fun v wr => ∃ k : Nat, v = .int .i64 k ∧ i ≤ k ∧ k ≤ j + 1 ∧ R dk wr ∧ KeepsB own w wr ∧ Hid (Sort.scanUp (fun x => lt x dk[a]!) dk j k = Sort.scanUp (fun x => lt x dk[a]!) dk j i)) (fun v _ => j + 1 - (intOf v).toNat)
    case atStart => exact ⟨i, rfl, Nat.le_refl _, hij, hRk, hK, rfl⟩
    case round =>
      clear hRk hK
      obtain ⟨k, rfl, hk1, hk2, hRk, hK, HS⟩ := hrel
      by_cases hle : k ≤ j
      · have m0 := S.ml _ (S.rw hRk)
        have hl := S.less hRk k a (by omega) (by omega) (by omega)
        cases hlv : lt dk[k]! dk[a]! with
        | true =>
          rw [hlv] at hl
          have HS2 : Hid (Sort.scanUp (fun x => lt x dk[a]!) dk j (k + 1) = Sort.scanUp (fun x => lt x dk[a]!) dk j i) := by
            show _ = _
            rw [← HS.out]
            exact (scanUp_go (fun x => lt x dk[a]!) dk j k hle (by simp [hlv])).symm
          clear HS
          go_wp2_with fail
          (with_reducible refine hl.mono ?_)
          rintro e w2 ⟨rfl, hb2⟩
          go_wp2_with fail
          go_roundw
          case rel => exact ⟨(k + 1), by go_num, by omega, by omega, S.below hRk hb2, hK.trans (KeepsB.of hb2), HS2⟩
          case measure => simp [intOf]; omega
        | false =>
          rw [hlv] at hl
          have HS2 : Hid (k = Sort.scanUp (fun x => lt x dk[a]!) dk j i) := by show _ = _; rw [← HS.out]; exact (scanUp_end (fun x => lt x dk[a]!) dk j k (.inr (by simp [hlv]))).symm
          clear HS
          go_wp2_with fail
          (with_reducible refine hl.mono ?_)
          rintro e w2 ⟨rfl, hb2⟩
          go_wp2_with fail
          go_meet
          exact ⟨k, rfl, hk1, hk2, S.below hRk hb2, hK.trans (KeepsB.of hb2), HS2⟩
      · have HS2 : Hid (k = Sort.scanUp (fun x => lt x dk[a]!) dk j i) := by show _ = _; rw [← HS.out]; exact (scanUp_end (fun x => lt x dk[a]!) dk j k (.inl hle)).symm
        clear HS
        go_wp2_with fail
        go_meet
        exact ⟨k, rfl, hk1, hk2, hRk, hK, HS2⟩
  case rest =>
    clear hRk hK
    obtain ⟨i2, rfl, hi1, hij2, hRk, hK, HI⟩ := hcut
    go_upto_block 2 with fail
    go_cut [11] (fun v wc => ∃ k : Nat, v = .int .i64 k ∧ k ≤ j ∧ i2 ≤ k + 1 ∧ R dk wc ∧ KeepsB own w wc ∧ Hid (k = Sort.scanDown (fun x => !lt x dk[a]!) dk i2 j))
    case first =>
      go_wp2_with fail
      go_loopw [11] (fun v wr => ∃ k : Nat, v = .int .i64 k ∧ k ≤ j ∧ i2 ≤ k + 1 ∧ R dk wr ∧ KeepsB own w wr ∧ Hid (Sort.scanDown (fun x => !lt x dk[a]!) dk i2 k = Sort.scanDown (fun x => !lt x dk[a]!) dk i2 j)) (fun v _ => (intOf v).toNat)
      case atStart => exact ⟨j, rfl, Nat.le_refl _, hij2, hRk, hK, rfl⟩
      case round =>
        clear hRk hK
        obtain ⟨k, rfl, hk1, hk2, hRk, hK, HS⟩ := hrel
        by_cases hle : i2 ≤ k
        · have m0 := S.ml _ (S.rw hRk)
          have hl := S.less hRk k a (by omega) (by omega) (by omega)
          cases hlv : lt dk[k]! dk[a]! with
          | false =>
            rw [hlv] at hl
            have HS2 : Hid (Sort.scanDown (fun x => !lt x dk[a]!) dk i2 (k - 1) = Sort.scanDown (fun x => !lt x dk[a]!) dk i2 j) := by
              show _ = _
              rw [← HS.out]
              obtain ⟨k', rfl⟩ : ∃ k', k = k' + 1 := ⟨k - 1, by omega⟩
              exact (scanDown_go (fun x => !lt x dk[a]!) dk i2 k' hle (by simp [hlv])).symm
            clear HS
            go_wp2_with fail
            (with_reducible refine hl.mono ?_)
            rintro e w2 ⟨rfl, hb2⟩
            go_wp2_with fail
            go_roundw
            case rel => exact ⟨(k - 1), by go_num, by omega, by omega, S.below hRk hb2, hK.trans (KeepsB.of hb2), HS2⟩
            case measure => simp [intOf]; omega
          | true =>
            rw [hlv] at hl
            have HS2 : Hid (k = Sort.scanDown (fun x => !lt x dk[a]!) dk i2 j) := by show _ = _; rw [← HS.out]; exact (scanDown_end (fun x => !lt x dk[a]!) dk i2 k (.inr (by simp [hlv]))).symm
            clear HS
            go_wp2_with fail
            (with_reducible refine hl.mono ?_)
            rintro e w2 ⟨rfl, hb2⟩
            go_wp2_with fail
            go_meet
            exact ⟨k, rfl, hk1, hk2, S.below hRk hb2, hK.trans (KeepsB.of hb2), HS2⟩
        · have HS2 : Hid (k = Sort.scanDown (fun x => !lt x dk[a]!) dk i2 j) := by show _ = _; rw [← HS.out]; exact (scanDown_end (fun x => !lt x dk[a]!) dk i2 k (.inl hle)).symm
          clear HS
          go_wp2_with fail
          go_meet
          exact ⟨k, rfl, hk1, hk2, hRk, hK, HS2⟩
    case rest =>
      clear hRk hK
      obtain ⟨j2, rfl, hj1, hj2, hRk, hK, HJ⟩ := hcut
      have HP2 := HP.out
      rw [← HI.out, ← HJ.out] at HP2
      have HQ : Hid (Sort.partition lt d a b pivot = if i2 > j2 then (j2, true, Sort.swp dk j2 a) else ((Sort.partLoop lt a (i2 + 1) (j2 - 1) (Sort.swp dk i2 j2)).1, false, Sort.swp (Sort.partLoop lt a (i2 + 1) (j2 - 1) (Sort.swp dk i2 j2)).2 (Sort.partLoop lt a (i2 + 1) (j2 - 1) (Sort.swp dk i2 j2)).1 a)) := HP2
      clear HP HP2
      by_cases hgt : i2 > j2
      · have HE2 : Hid (Sort.partition lt d a b pivot = (j2, true, Sort.swp dk j2 a)) := by show _ = _; rw [HQ.out, if_pos hgt]
        have m1 := S.ms _ (S.rw hRk)
        have hs := S.swap hRk j2 a (by omega) (by omega)
        clear HQ HI HJ
        go_wp2_with fail
        (with_reducible refine hs.mono ?_)
        rintro e w3 ⟨rfl, hR3, hk3⟩
        go_wp2_with fail
        go_ret2
        rw [HE2.out]
        exact ⟨rfl, hR3, hK.trans hk3⟩
      · have hne : i2 < j2 := by
          rcases Nat.lt_or_ge i2 j2 with h | h
          · exact h
          · exfalso
            obtain ⟨_, _, _, u4⟩ := Sort.scanUp_spec (fun x => lt x dk[a]!) dk j _ i rfl
            obtain ⟨_, _, _, v4⟩ := Sort.scanDown_spec (fun x => !lt x dk[a]!) dk i2 j
            rw [← HI.out] at u4
            rw [← HJ.out] at v4
            have f1 := u4 (by omega)
            have f2 := v4 (by omega) (by omega)
            obtain rfl : i2 = j2 := by omega
            simp only [f1] at f2
            cases f2
        obtain ⟨F, hF⟩ : ∃ F, F = Sort.partLoop lt a (i2 + 1) (j2 - 1) (Sort.swp dk i2 j2) := ⟨_, rfl⟩
        have HE2 : Hid (Sort.partition lt d a b pivot = (F.1, false, Sort.swp F.2 F.1 a)) := by show _ = _; rw [HQ.out, if_neg hgt, hF]
        have HF : Hid (F = Sort.partLoop lt a (i2 + 1) (j2 - 1) (Sort.swp dk i2 j2)) := hF
        have m1 := S.ms _ (S.rw hRk)
        have hs := S.swap hRk i2 j2 (by omega) (by omega)
        clear HQ HI HJ hF
        go_wp2_with fail
        (with_reducible refine hs.mono ?_)
        rintro e w3 ⟨rfl, hR3, hk3⟩
        have hK3 := hK.trans hk3
        clear hs m1 hRk hK hk3
        go_wp2_with fail
        have hai2 : a < i2 := by omega
        have hjb2 : j2 < b := by omega
        clear ei ej hai hij hjb hi1 hij2 hj1 hj2 hgt
        go_loopw [10, 11] (fun vi vj wr => ∃ (i j : Nat) (dk : Array Nat), vi = .int .i64 i ∧ vj = .int .i64 j ∧ a < i ∧ i ≤ j + 1 ∧ j < b ∧ R dk wr ∧ KeepsB own w wr ∧ Hid (Sort.partLoop lt a i j dk = F))
          (fun vi vj _ => (intOf vj).toNat + 1 - (intOf vi).toNat)
        case atStart => exact ⟨i2 + 1, j2 - 1, _, by go_num, by go_num, by omega, by omega, by omega, hR3, hK3, HF.out.symm⟩
        case round =>
          clear hR3 hK3 HF
          obtain ⟨i, j, dk, rfl, rfl, hai, hij, hjb, hRk, hK, HE⟩ := hrel
          clear hne hai2 hjb2
          go_upto_block 6 with fail
          go_cut [10] (fun v wc => ∃ k : Nat, v = .int .i64 k ∧ i ≤ k ∧ k ≤ j + 1 ∧ R dk wc ∧ KeepsB own w wc ∧ Hid (k = Sort.scanUp (fun x => lt x dk[a]!) dk j i))
          case first =>
            go_wp2_with fail
            go_loopw [10] (fun v wr => ∃ k : Nat, v = .int .i64 k ∧ i ≤ k ∧ k ≤ j + 1 ∧ R dk wr ∧ KeepsB own w wr ∧ Hid (Sort.scanUp (fun x => lt x dk[a]!) dk j k = Sort.scanUp (fun x => lt x dk[a]!) dk j i)) (fun v _ => j + 1 - (intOf v).toNat)
            case atStart => exact ⟨i, rfl, Nat.le_refl _, hij, hRk, hK, rfl⟩
            case round =>
              clear hRk hK
              obtain ⟨k, rfl, hk1, hk2, hRk, hK, HS⟩ := hrel
              by_cases hle : k ≤ j
              · have m0 := S.ml _ (S.rw hRk)
                have hl := S.less hRk k a (by omega) (by omega) (by omega)
                cases hlv : lt dk[k]! dk[a]! with
                | true =>
                  rw [hlv] at hl
                  have HS2 : Hid (Sort.scanUp (fun x => lt x dk[a]!) dk j (k + 1) = Sort.scanUp (fun x => lt x dk[a]!) dk j i) := by
                    show _ = _
                    rw [← HS.out]
                    exact (scanUp_go (fun x => lt x dk[a]!) dk j k hle (by simp [hlv])).symm
                  clear HS
                  go_wp2_with fail
                  (with_reducible refine hl.mono ?_)
                  rintro e w2 ⟨rfl, hb2⟩
                  go_wp2_with fail
                  go_roundw
                  case rel => exact ⟨(k + 1), by go_num, by omega, by omega, S.below hRk hb2, hK.trans (KeepsB.of hb2), HS2⟩
                  case measure => simp [intOf]; omega
                | false =>
                  rw [hlv] at hl
                  have HS2 : Hid (k = Sort.scanUp (fun x => lt x dk[a]!) dk j i) := by show _ = _; rw [← HS.out]; exact (scanUp_end (fun x => lt x dk[a]!) dk j k (.inr (by simp [hlv]))).symm
                  clear HS
                  go_wp2_with fail
                  (with_reducible refine hl.mono ?_)
                  rintro e w2 ⟨rfl, hb2⟩
                  go_wp2_with fail
                  go_meet
                  exact ⟨k, rfl, hk1, hk2, S.below hRk hb2, hK.trans (KeepsB.of hb2), HS2⟩
              · have HS2 : Hid (k = Sort.scanUp (fun x => lt x dk[a]!) dk j i) := by show _ = _; rw [← HS.out]; exact (scanUp_end (fun x => lt x dk[a]!) dk j k (.inl hle)).symm
                clear HS
                go_wp2_with fail
                go_meet
                exact ⟨k, rfl, hk1, hk2, hRk, hK, HS2⟩
          case rest =>
            clear hRk hK
            obtain ⟨i2, rfl, hi1, hij2, hRk, hK, HI⟩ := hcut
            go_upto_block 8 with fail
            go_cut [11] (fun v wc => ∃ k : Nat, v = .int .i64 k ∧ k ≤ j ∧ i2 ≤ k + 1 ∧ R dk wc ∧ KeepsB own w wc ∧ Hid (k = Sort.scanDown (fun x => !lt x dk[a]!) dk i2 j))
            case first =>
              go_wp2_with fail
              go_loopw [11] (fun v wr => ∃ k : Nat, v = .int .i64 k ∧ k ≤ j ∧ i2 ≤ k + 1 ∧ R dk wr ∧ KeepsB own w wr ∧ Hid (Sort.scanDown (fun x => !lt x dk[a]!) dk i2 k = Sort.scanDown (fun x => !lt x dk[a]!) dk i2 j)) (fun v _ => (intOf v).toNat)
              case atStart => exact ⟨j, rfl, Nat.le_refl _, hij2, hRk, hK, rfl⟩
              case round =>
                clear hRk hK
                obtain ⟨k, rfl, hk1, hk2, hRk, hK, HS⟩ := hrel
                by_cases hle : i2 ≤ k
                · have m0 := S.ml _ (S.rw hRk)
                  have hl := S.less hRk k a (by omega) (by omega) (by omega)
                  cases hlv : lt dk[k]! dk[a]! with
                  | false =>
                    rw [hlv] at hl
                    have HS2 : Hid (Sort.scanDown (fun x => !lt x dk[a]!) dk i2 (k - 1) = Sort.scanDown (fun x => !lt x dk[a]!) dk i2 j) := by
                      show _ = _
                      rw [← HS.out]
                      obtain ⟨k', rfl⟩ : ∃ k', k = k' + 1 := ⟨k - 1, by omega⟩
                      exact (scanDown_go (fun x => !lt x dk[a]!) dk i2 k' hle (by simp [hlv])).symm
                    clear HS
                    go_wp2_with fail
                    (with_reducible refine hl.mono ?_)
                    rintro e w2 ⟨rfl, hb2⟩
                    go_wp2_with fail
                    go_roundw
                    case rel => exact ⟨(k - 1), by go_num, by omega, by omega, S.below hRk hb2, hK.trans (KeepsB.of hb2), HS2⟩
                    case measure => simp [intOf]; omega
                  | true =>
                    rw [hlv] at hl
                    have HS2 : Hid (k = Sort.scanDown (fun x => !lt x dk[a]!) dk i2 j) := by show _ = _; rw [← HS.out]; exact (scanDown_end (fun x => !lt x dk[a]!) dk i2 k (.inr (by simp [hlv]))).symm
                    clear HS
                    go_wp2_with fail
                    (with_reducible refine hl.mono ?_)
                    rintro e w2 ⟨rfl, hb2⟩
                    go_wp2_with fail
                    go_meet
                    exact ⟨k, rfl, hk1, hk2, S.below hRk hb2, hK.trans (KeepsB.of hb2), HS2⟩
                · have HS2 : Hid (k = Sort.scanDown (fun x => !lt x dk[a]!) dk i2 j) := by show _ = _; rw [← HS.out]; exact (scanDown_end (fun x => !lt x dk[a]!) dk i2 k (.inl hle)).symm
                  clear HS
                  go_wp2_with fail
                  go_meet
                  exact ⟨k, rfl, hk1, hk2, hRk, hK, HS2⟩
            case rest =>
              clear hRk hK
              obtain ⟨j2, rfl, hj1, hj2, hRk, hK, HJ⟩ := hcut
              by_cases hgt : i2 > j2
              · have HF2 : Hid (F = (j2, dk)) := by
                  show _ = _
                  rw [← HE.out, Sort.partLoop_eq, ← HI.out, ← HJ.out, if_pos hgt]
                have m1 := S.ms _ (S.rw hRk)
                have hs := S.swap hRk j2 a (by omega) (by omega)
                clear HE HI HJ
                go_wp2_with fail
                (with_reducible refine hs.mono ?_)
                rintro e w3 ⟨rfl, hR3, hk3⟩
                go_wp2_with fail
                go_ret2
                rw [HE2.out, HF2.out]
                exact ⟨rfl, hR3, hK.trans hk3⟩
              · have HF2 : Hid (Sort.partLoop lt a (i2 + 1) (j2 - 1) (Sort.swp dk i2 j2) = F) := by
                  show _ = _
                  rw [← HE.out, Sort.partLoop_eq lt a i j, ← HI.out, ← HJ.out, if_neg hgt]
                have hne : i2 < j2 := by
                  rcases Nat.lt_or_ge i2 j2 with h | h
                  · exact h
                  · exfalso
                    obtain ⟨_, _, _, u4⟩ := Sort.scanUp_spec (fun x => lt x dk[a]!) dk j _ i rfl
                    obtain ⟨_, _, _, v4⟩ := Sort.scanDown_spec (fun x => !lt x dk[a]!) dk i2 j
                    rw [← HI.out] at u4
                    rw [← HJ.out] at v4
                    have f1 := u4 (by omega)
                    have f2 := v4 (by omega) (by omega)
                    obtain rfl : i2 = j2 := by omega
                    simp only [f1] at f2
                    cases f2
                have m1 := S.ms _ (S.rw hRk)
                have hs := S.swap hRk i2 j2 (by omega) (by omega)
                clear HE HI HJ
                go_wp2_with fail
                (with_reducible refine hs.mono ?_)
                rintro e w3 ⟨rfl, hR3, hk3⟩
                go_wp2_with fail
                go_roundw
                case rel => exact ⟨i2 + 1, j2 - 1, _, by go_num, by go_num, by omega, by omega, by omega, hR3, hK.trans hk3, HF2⟩
                case measure => simp [intOf]; omega
end
end Go.Proofs.Ytafanlbfbfbeoaa
