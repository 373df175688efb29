/- What the proofs over smartclip lean on, part 21 of 48. -/
import Derived.Test.YtafanlbfbfbeoaaM08
import Derived.Deep.LoopGhost
import Derived.Deep.DeepCutAuto
import Derived.Deep.CutBlock

/- The sort's few steps of insertion. -/
namespace Go.Proofs.Ytafanlbfbfbeoaa
open Go.RowKit

section
variable {α : Type} [Inhabited α] (lt : α → α → Bool)
theorem scanSorted_go {b i : Nat} {d : Array α} (h : i < b) (hl : lt d[i]! d[i - 1]! = false) : Sort.scanSorted lt d b i = Sort.scanSorted lt d b (i + 1) := by
  rw [Sort.scanSorted, if_pos (by simp [h, hl])]
theorem scanSorted_end {b i : Nat} {d : Array α} (h : ¬ i < b ∨ lt d[i]! d[i - 1]! = true) : Sort.scanSorted lt d b i = i := by
  rw [Sort.scanSorted, if_neg (by rcases h with h | h <;> simp [h])]
theorem shiftDown_go {j : Nat} {d : Array α} (hl : lt d[j + 1]! d[j]! = true) : Sort.shiftDown lt (j + 1) d = Sort.shiftDown lt j (Sort.swp d (j + 1) j) := by
  rw [Sort.shiftDown, if_neg (by simp [hl])]
theorem shiftDown_end {j : Nat} {d : Array α} (hl : lt d[j + 1]! d[j]! = false) : Sort.shiftDown lt (j + 1) d = d := by
  rw [Sort.shiftDown, if_pos (by simp [hl])]
theorem shiftDown_go' {j : Nat} {d : Array α} (h : 0 < j) (hl : lt d[j]! d[j - 1]! = true) : Sort.shiftDown lt j d = Sort.shiftDown lt (j - 1) (Sort.swp d j (j - 1)) := by
  obtain ⟨k, rfl⟩ : ∃ k, j = k + 1 := ⟨j - 1, by omega⟩
  exact shiftDown_go lt hl
theorem shiftDown_end' {j : Nat} {d : Array α} (h : 0 < j) (hl : lt d[j]! d[j - 1]! = false) : Sort.shiftDown lt j d = d := by
  obtain ⟨k, rfl⟩ : ∃ k, j = k + 1 := ⟨j - 1, by omega⟩
  exact shiftDown_end lt hl
theorem shiftUp_go {b j : Nat} {d : Array α} (h : j < b) (hl : lt d[j]! d[j - 1]! = true) : Sort.shiftUp lt b j d = Sort.shiftUp lt b (j + 1) (Sort.swp d j (j - 1)) := by
  rw [Sort.shiftUp, if_pos h, if_neg (by simp [hl])]
theorem shiftUp_end {b j : Nat} {d : Array α} (h : ¬ j < b ∨ lt d[j]! d[j - 1]! = false) : Sort.shiftUp lt b j d = d := by
  rw [Sort.shiftUp]
  rcases h with h | h
  · rw [if_neg h]
  · split
    · rw [if_pos (by simp [h])]
    · rfl
theorem partialIns_go {a b s i i2 : Nat} {d : Array α} (hi : i2 = Sort.scanSorted lt d b i) (h1 : ¬ i2 = b) (h2 : ¬ b - a < 50) :
    Sort.partialIns lt a b (s + 1) i d = Sort.partialIns lt a b s i2 (if b - i2 ≥ 2 then Sort.shiftUp lt b (i2 + 1) (if i2 - a ≥ 2 then Sort.shiftDown lt (i2 - 1) (Sort.swp d i2 (i2 - 1)) else Sort.swp d i2 (i2 - 1)) else (if i2 - a ≥ 2 then Sort.shiftDown lt (i2 - 1) (Sort.swp d i2 (i2 - 1)) else Sort.swp d i2 (i2 - 1))) := by
  subst hi
  rw [Sort.partialIns]
  simp only
  rw [if_neg h1, if_neg h2]
theorem partialIns_done {a b s i i2 : Nat} {d : Array α} (hi : i2 = Sort.scanSorted lt d b i) (h1 : i2 = b) : Sort.partialIns lt a b (s + 1) i d = (d, true) := by
  subst hi
  rw [Sort.partialIns]
  simp only
  rw [if_pos h1]
theorem partialIns_short {a b s i i2 : Nat} {d : Array α} (hi : i2 = Sort.scanSorted lt d b i) (h1 : ¬ i2 = b) (h2 : b - a < 50) : Sort.partialIns lt a b (s + 1) i d = (d, false) := by
  subst hi
  rw [Sort.partialIns]
  simp only
  rw [if_neg h1, if_pos h2]
end

section
variable {T : TypeId} {rv : Value} {gn gl gs : Nat} {rn rl rs : Value} {lt : Nat → Nat → Bool} {n : Nat} {own : Nat → Prop} {R : Array Nat → World → Prop} {RW : World → Prop}

set_option maxRecDepth 100000 in
set_option maxHeartbeats 8000000 in
theorem partialInsertionSort_any (S : SortI T rv gn gl gs rn rl rs lt n own R RW) (a b : Nat) (d : Array Nat) (w : World) (hR : R d w) (hab : a < b) (hb : b ≤ n) (hsz : n < 1000000) :
    Calls Try.prog 75 #[.iface T rv, .int .i64 a, .int .i64 b] w fun e w' => e = .returned (.bool (Sort.partialInsertionSort lt d a b).2) ∧ R (Sort.partialInsertionSort lt d a b).1 w' ∧ KeepsB own w w' := by
  have eL := S.el; have eS := S.es
  go_enter Try.func75, Try.ntmps75
  go_wp2_with fail
  go_loopw [7, 8] (fun vi vj wr => ∃ (i jj : Nat) (dk : Array Nat), vi = .int .i64 i ∧ vj = .int .i64 jj ∧ jj ≤ 5 ∧ a < i ∧ i ≤ b ∧ R dk wr ∧ KeepsB own w wr ∧ Hid (Sort.partialIns lt a b (5 - jj) i dk = Sort.partialInsertionSort lt d a b)) (fun _ vj _ => 5 - (intOf vj).toNat)
  case atStart => exact ⟨a + 1, 0, d, by go_num, rfl, by omega, by omega, by omega, hR, KeepsB.refl _ _, rfl⟩
  case round =>
    clear hR
    obtain ⟨i, jj, dk, rfl, rfl, hjj, hai, hib, hRk, hK, HE⟩ := hrel
    by_cases hlt : jj < 5
    · obtain ⟨s, hs⟩ : ∃ s, 5 - jj = s + 1 := ⟨4 - jj, by omega⟩
      have hsj : 5 - (jj + 1) = s := by omega
      rw [hs] at HE
      have tj : decide ((jj : Int) < 5) = true := decide_eq_true (by omega)
      go_upto_block 2 with fail
      clear tj
      go_cut [7] (fun v wc => ∃ k : Nat, v = .int .i64 k ∧ a < k ∧ k ≤ b ∧ R dk wc ∧ KeepsB own w wc ∧ Hid (k = Sort.scanSorted lt dk b i))
      case first =>
        go_wp2_with fail
        go_loopw [7] (fun v wr => ∃ k : Nat, v = .int .i64 k ∧ a < k ∧ k ≤ b ∧ R dk wr ∧ KeepsB own w wr ∧ Hid (Sort.scanSorted lt dk b k = Sort.scanSorted lt dk b i)) (fun v _ => b - (intOf v).toNat)
        case atStart => exact ⟨i, rfl, hai, hib, hRk, hK, rfl⟩
        case round =>
          clear hRk hK
          obtain ⟨k, rfl, hk1, hk2, hRk, hK, HS⟩ := hrel
          by_cases hle : k < b
          · have m0 := S.ml _ (S.rw hRk)
            have hl := S.less hRk k (k - 1) (by omega) (by omega) (by omega)
            rw [show (((k - 1 : Nat) : Int)) = (k : Int) - 1 by omega] at hl
            cases hlv : lt dk[k]! dk[k - 1]! with
            | false =>
              rw [hlv] at hl
              have HS2 : Hid (Sort.scanSorted lt dk b (k + 1) = Sort.scanSorted lt dk b i) := by show _ = _; rw [← HS.out]; exact (scanSorted_go lt hle hlv).symm
              clear HS
              go_wp2_with fail
              (with_reducible refine hl.mono ?_)
              rintro e w2 ⟨rfl, hb2⟩
              go_wp2_with fail
              go_roundw
              case rel => exact ⟨k + 1, by go_num, by omega, by omega, S.below hRk hb2, hK.trans (KeepsB.of hb2), HS2⟩
              case measure => simp [intOf]; omega
            | true =>
              rw [hlv] at hl
              have HS2 : Hid (k = Sort.scanSorted lt dk b i) := by show _ = _; rw [← HS.out]; exact (scanSorted_end lt (.inr hlv)).symm
              clear HS
              go_wp2_with fail
              (with_reducible refine hl.mono ?_)
              rintro e w2 ⟨rfl, hb2⟩
              go_wp2_with fail
              go_meet
              exact ⟨k, rfl, hk1, hk2, S.below hRk hb2, hK.trans (KeepsB.of hb2), HS2⟩
          · have HS2 : Hid (k = Sort.scanSorted lt dk b i) := by show _ = _; rw [← HS.out]; exact (scanSorted_end lt (.inl hle)).symm
            clear HS
            go_wp2_with fail
            go_meet
            exact ⟨k, rfl, hk1, hk2, hRk, hK, HS2⟩
      case rest =>
        clear hRk hK
        obtain ⟨i2, rfl, hi1, hi2, hRk, hK, HI⟩ := hcut
        by_cases hend : i2 = b
        · have HE2 : Hid (Sort.partialInsertionSort lt d a b = (dk, true)) := by show _ = _; rw [← HE.out, partialIns_done lt HI.out hend]
          clear HE HI
          subst hend
          go_wp2_with fail
          go_ret
          rw [HE2.out]
          exact ⟨rfl, hRk, hK⟩
        have tend : ((i2 : Int) == (b : Int)) = false := by simp; omega
        by_cases hsh : b - a < 50
        · have HE2 : Hid (Sort.partialInsertionSort lt d a b = (dk, false)) := by show _ = _; rw [← HE.out, partialIns_short lt HI.out hend hsh]
          have hshz : (b : Int) - (a : Int) < 50 := by omega
          clear HE HI hend
          go_wp2_with fail
          go_ret
          rw [HE2.out]
          exact ⟨rfl, hRk, hK⟩
        have hshz : ¬ ((b : Int) - (a : Int) < 50) := by omega
        have HE2 := HE.out
        rw [partialIns_go lt HI.out hend hsh] at HE2
        have HE3 : Hid _ := HE2
        have m1 := S.ms _ (S.rw hRk)
        have hsw := S.swap hRk i2 (i2 - 1) (by omega) (by omega)
        rw [show (((i2 - 1 : Nat) : Int)) = (i2 : Int) - 1 by omega] at hsw
        clear HE HE2 HI hend
        go_wp2_with fail
        (with_reducible refine hsw.mono ?_)
        rintro e w3 ⟨rfl, hR3, hk3⟩
        have hK3 := hK.trans hk3
        clear hRk hK hk3 m1 hsw
        obtain ⟨d1, hd1⟩ : ∃ d1, d1 = Sort.swp dk i2 (i2 - 1) := ⟨_, rfl⟩
        rw [← hd1] at hR3 HE3
        clear hd1
        obtain ⟨d2, hd2⟩ : ∃ d2, d2 = if i2 - a ≥ 2 then Sort.shiftDown lt (i2 - 1) d1 else d1 := ⟨_, rfl⟩
        rw [← hd2] at HE3
        have HD2 : Hid (d2 = if i2 - a ≥ 2 then Sort.shiftDown lt (i2 - 1) d1 else d1) := hd2
        clear hd2
        obtain ⟨d3, hd3⟩ : ∃ d3, d3 = if b - i2 ≥ 2 then Sort.shiftUp lt b (i2 + 1) d2 else d2 := ⟨_, rfl⟩
        rw [← hd3] at HE3
        have HD3 : Hid (d3 = if b - i2 ≥ 2 then Sort.shiftUp lt b (i2 + 1) d2 else d2) := hd3
        clear hd3
        go_upto_if 45 with fail
        go_cut [] (fun wc => R d2 wc ∧ KeepsB own w wc)
        case first =>
          by_cases h2 : i2 - a ≥ 2
          · have h2z : (2 : Int) ≤ (i2 : Int) - (a : Int) := by omega
            have h2d : decide ((2 : Int) ≤ (i2 : Int) - (a : Int)) = true := decide_eq_true h2z
            rw [h2d]
            clear h2d
            have HD : Hid (d2 = Sort.shiftDown lt (i2 - 1) d1) := by show _ = _; rw [HD2.out, if_pos h2]
            have ei : (i2 : Int) - 1 = ((i2 - 1 : Nat) : Int) := by omega
            clear HD2 HD3 HE3
            go_wp2_with fail
            go_loopw [9] (fun v wr => ∃ (j : Nat) (dj : Array Nat), v = .int .i64 j ∧ j ≤ i2 - 1 ∧ R dj wr ∧ KeepsB own w wr ∧ Hid (Sort.shiftDown lt j dj = d2)) (fun v _ => (intOf v).toNat)
            case atStart => exact ⟨i2 - 1, d1, by simp [← ei], Nat.le_refl _, hR3, hK3, HD.out.symm⟩
            case round =>
              clear hR3 hK3 HD ei
              obtain ⟨j, dj, rfl, hj, hRj, hK, HS⟩ := hrel
              by_cases hj0 : j = 0
              · subst hj0
                have HS2 : Hid (dj = d2) := HS
                clear HS
                go_wp2_with fail
                go_meet
                exact ⟨by rw [← HS2.out]; exact hRj, hK⟩
              · have m0 := S.ml _ (S.rw hRj)
                have hl := S.less hRj j (j - 1) (by omega) (by omega) (by omega)
                rw [show (((j - 1 : Nat) : Int)) = (j : Int) - 1 by omega] at hl
                cases hlv : lt dj[j]! dj[j - 1]! with
                | true =>
                  rw [hlv] at hl
                  have hsw := fun W (h : R dj W) => S.swap h j (j - 1) (by omega) (by omega)
                  rw [show (((j - 1 : Nat) : Int)) = (j : Int) - 1 by omega] at hsw
                  have HS2 : Hid (Sort.shiftDown lt (j - 1) (Sort.swp dj j (j - 1)) = d2) := by show _ = _; rw [← HS.out, shiftDown_go' lt (by omega) hlv]
                  clear HS
                  go_wp2_with fail
                  (with_reducible refine hl.mono ?_)
                  rintro e w4 ⟨rfl, hb4⟩
                  have hR4 := S.below hRj hb4
                  have m1 := S.ms _ (S.rw hR4)
                  go_wp2_with fail
                  (with_reducible refine (hsw _ hR4).mono ?_)
                  rintro e w5 ⟨rfl, hR5, hk5⟩
                  have hK5 := (hK.trans (KeepsB.of hb4)).trans hk5
                  go_wp2_with fail
                  go_roundw
                  case rel => exact ⟨j - 1, _, by congr 1 <;> omega, by omega, hR5, hK5, HS2⟩
                  case measure => simp [intOf]; omega
                | false =>
                  rw [hlv] at hl
                  have HS2 : Hid (dj = d2) := by show _ = _; rw [← HS.out, shiftDown_end' lt (by omega) hlv]
                  clear HS
                  go_wp2_with fail
                  (with_reducible refine hl.mono ?_)
                  rintro e w4 ⟨rfl, hb4⟩
                  go_wp2_with fail
                  go_meet
                  exact ⟨by rw [← HS2.out]; exact S.below hRj hb4, hK.trans (KeepsB.of hb4)⟩
          · have h2z : ¬ (2 : Int) ≤ (i2 : Int) - (a : Int) := by omega
            have HD : Hid (d2 = d1) := by show _ = _; rw [HD2.out, if_neg h2]
            clear HD2 HD3 HE3
            go_wp2_with fail
            go_meet
            exact ⟨by rw [HD.out]; exact hR3, hK3⟩
        case rest =>
          clear hR3 hK3 HD2
          obtain ⟨hR4, hK4⟩ := hcut
          by_cases h2 : b - i2 ≥ 2
          · have h2z : (2 : Int) ≤ (b : Int) - (i2 : Int) := by omega
            have HD : Hid (d3 = Sort.shiftUp lt b (i2 + 1) d2) := by show _ = _; rw [HD3.out, if_pos h2]
            clear HD3
            go_wp2_with fail
            go_loopw [10] (fun v wr => ∃ (j : Nat) (dj : Array Nat), v = .int .i64 j ∧ i2 < j ∧ j ≤ b ∧ R dj wr ∧ KeepsB own w wr ∧ Hid (Sort.shiftUp lt b j dj = d3)) (fun v _ => b - (intOf v).toNat)
            case atStart => exact ⟨i2 + 1, d2, by go_num, by omega, by omega, hR4, hK4, HD.out.symm⟩
            case round =>
              clear hR4 hK4 HD
              obtain ⟨j, dj, rfl, hj1, hj2, hRj, hK, HS⟩ := hrel
              by_cases hjb : j < b
              · have m0 := S.ml _ (S.rw hRj)
                have hl := S.less hRj j (j - 1) (by omega) (by omega) (by omega)
                rw [show (((j - 1 : Nat) : Int)) = (j : Int) - 1 by omega] at hl
                cases hlv : lt dj[j]! dj[j - 1]! with
                | true =>
                  rw [hlv] at hl
                  have hsw := fun W (h : R dj W) => S.swap h j (j - 1) (by omega) (by omega)
                  rw [show (((j - 1 : Nat) : Int)) = (j : Int) - 1 by omega] at hsw
                  have HS2 : Hid (Sort.shiftUp lt b (j + 1) (Sort.swp dj j (j - 1)) = d3) := by show _ = _; rw [← HS.out, shiftUp_go lt hjb hlv]
                  clear HS
                  go_wp2_with fail
                  (with_reducible refine hl.mono ?_)
                  rintro e w4 ⟨rfl, hb4⟩
                  have hR4 := S.below hRj hb4
                  have m1 := S.ms _ (S.rw hR4)
                  go_wp2_with fail
                  (with_reducible refine (hsw _ hR4).mono ?_)
                  rintro e w5 ⟨rfl, hR5, hk5⟩
                  have hK5 := (hK.trans (KeepsB.of hb4)).trans hk5
                  go_wp2_with fail
                  go_roundw
                  case rel => exact ⟨j + 1, _, by go_num, by omega, by omega, hR5, hK5, HS2⟩
                  case measure => simp [intOf]; omega
                | false =>
                  rw [hlv] at hl
                  have HS2 : Hid (dj = d3) := by show _ = _; rw [← HS.out, shiftUp_end lt (.inr hlv)]
                  clear HS
                  go_wp2_with fail
                  (with_reducible refine hl.mono ?_)
                  rintro e w4 ⟨rfl, hb4⟩
                  go_wp2_with fail
                  go_roundw
                  case rel => exact ⟨i2, jj + 1, d3, rfl, by go_num, by omega, by omega, by omega, by rw [← HS2.out]; exact S.below hRj hb4, hK.trans (KeepsB.of hb4), (by show _ = _; rw [hsj]; exact HE3.out)⟩
                  case measure => simp [intOf]; omega
              · have HS2 : Hid (dj = d3) := by show _ = _; rw [← HS.out, shiftUp_end lt (.inl hjb)]
                clear HS
                go_wp2_with fail
                go_roundw
                case rel => exact ⟨i2, jj + 1, d3, rfl, by go_num, by omega, by omega, by omega, by rw [← HS2.out]; exact hRj, hK, (by show _ = _; rw [hsj]; exact HE3.out)⟩
                case measure => simp [intOf]; omega
          · have h2z : ¬ (2 : Int) ≤ (b : Int) - (i2 : Int) := by omega
            have HD : Hid (d3 = d2) := by show _ = _; rw [HD3.out, if_neg h2]
            clear HD3
            go_wp2_with fail
            go_roundw
            case rel => exact ⟨i2, jj + 1, d3, rfl, by go_num, by omega, by omega, by omega, by rw [HD.out]; exact hR4, hK4, (by show _ = _; rw [hsj]; exact HE3.out)⟩
            case measure => simp [intOf]; omega
    · obtain rfl : jj = 5 := by omega
      have HE2 : Hid ((dk, false) = Sort.partialInsertionSort lt d a b) := HE
      clear HE
      go_wp2_with fail
      go_ret
      rw [← HE2.out]
      exact ⟨rfl, hRk, hK⟩
end
end Go.Proofs.Ytafanlbfbfbeoaa
