/- What the proofs over smartclip lean on, part 22 of 48. -/
import Derived.Test.YtafanlbfbfbeoaaM17
import Derived.Lib.BitFns
import Derived.Lib.Small
import Derived.Laws.Bits64
import Derived.Laws.Bits64b
import Derived.RegionTactic
import Derived.ChangeAlike
import Derived.Deep.DeepCutAuto
import Derived.Deep.CutBlock

/- The sort's broken patterns. -/
namespace Go.Proofs.Ytafanlbfbfbeoaa
open Go.RowKit

theorem KeepsB.drew {own : Nat → Prop} {w W : World} (h : KeepsB own w W) : KeepsB own w W.drew := ⟨h.os, h.tape, h.output, h.size, h.block⟩

set_option maxRecDepth 100000 in
set_option maxHeartbeats 4000000 in
theorem len64_any (x : Int) (w : World) (h0 : 0 ≤ x) (h1 : x ≤ 255) : Calls Try.prog 69 #[.int .u64 x] w fun e w' => e = .returned (.int .i64 (Lib.bitLen x.toNat)) ∧ w' = w := by
  have hx : x < 4294967296 := by omega
  have hx2 : x < 65536 := by omega
  have hx3 : x < 256 := by omega
  go_enter Try.func69, Try.ntmps69
  go_wp2
  go_ret
  refine ⟨ret_int ?_, rfl⟩
  have hl := Lib.bitLen_le8' x h0 h1
  rw [Lib.len8_of x h0 h1]
  simp only [wrap64]
  omega

set_option maxRecDepth 100000 in
set_option maxHeartbeats 1000000 in
theorem bitsLen_any (x : Int) (w : World) (h0 : 0 ≤ x) (h1 : x ≤ 255) : Calls Try.prog 59 #[.int .u64 x] w fun e w' => e = .returned (.int .i64 (Lib.bitLen x.toNat)) ∧ w' = w := by
  have hl := fun w => len64_any x w h0 h1
  go_enter Try.func59, Try.ntmps59
  go_wp2_with fail
  refine (hl _).mono ?_
  rintro e w1 ⟨rfl, rfl⟩
  go_wp2_with fail
  go_ret
  exact ⟨rfl, rfl⟩

set_option maxRecDepth 100000 in
set_option maxHeartbeats 2000000 in
theorem xorNext_any (rb X : Nat) (hX : X < 18446744073709551616) (w : World) (hb : Blk w rb #[.int .u64 X] 151) :
    Calls Try.prog 80 #[.pointer (some ⟨rb, 0, none⟩)] w fun e w' => ∃ Y : Nat, Y < 18446744073709551616 ∧ e = .returned (.int .u64 Y) ∧ Blk w' rb #[.int .u64 Y] 151 ∧ KeepsB (· = rb) w w' := by
  obtain ⟨A, hA⟩ : ∃ A : Nat, A = X ^^^ (X * 8192 % 18446744073709551616) := ⟨_, rfl⟩
  obtain ⟨B, hB⟩ : ∃ B : Nat, B = A ^^^ (A / 128) := ⟨_, rfl⟩
  obtain ⟨C, hC⟩ : ∃ C : Nat, C = B ^^^ (B * 131072 % 18446744073709551616) := ⟨_, rfl⟩
  have lA : A < 18446744073709551616 := by rw [hA]; exact Nat.xor_lt_two_pow (n := 64) (by omega) (by omega)
  have lB : B < 18446744073709551616 := by rw [hB]; exact Nat.xor_lt_two_pow (n := 64) (by omega) (by omega)
  have lC : C < 18446744073709551616 := by rw [hC]; exact Nat.xor_lt_two_pow (n := 64) (by omega) (by omega)
  have e1 : bits .xor .u64 (X : Int) (IntKind.u64.wrap ((X : Int) * 8192)) = (A : Int) := by
    rw [IntKind.wrap_u64, show ((X : Int) * 8192 % 18446744073709551616) = ((X * 8192 % 18446744073709551616 : Nat) : Int) by omega, bits_xor_u64_nat _ _ hX (by omega), hA]
  have e2 : bits .xor .u64 (A : Int) ((A : Int) / 128) = (B : Int) := by
    rw [show ((A : Int) / 128) = ((A / 128 : Nat) : Int) by omega, bits_xor_u64_nat _ _ lA (by omega), hB]
  have e3 : bits .xor .u64 (B : Int) (IntKind.u64.wrap ((B : Int) * 131072)) = (C : Int) := by
    rw [IntKind.wrap_u64, show ((B : Int) * 131072 % 18446744073709551616) = ((B * 131072 % 18446744073709551616 : Nat) : Int) by omega, bits_xor_u64_nat _ _ lB (by omega), hC]
  have hc : w.cell? ⟨rb, 0, none⟩ = some (.int .u64 X) := hb.cell 0
  have hf : w.frozen? ⟨rb, 0, none⟩ = false := hb.frozen 0
  have hblk : ∀ v : Value, Blk (w.setCell ⟨rb, 0, none⟩ v) rb #[v] 151 := fun v => hb.set 0 v
  clear hA hB hC
  go_enter Try.func80, Try.ntmps80
  go_wp2
  go_cut [] (fun wc => Blk wc rb #[.int .u64 A] 151 ∧ KeepsB (· = rb) w wc)
  case first =>
    go_region
    all_goals go_wp2
    all_goals go_meet
    all_goals exact ⟨(hblk _).drew, (keepsB_store (own := (· = rb)) (KeepsB.refl _ _) rfl _).drew⟩
  case rest =>
    obtain ⟨hb, hk⟩ := hcut
    have hc : wc.cell? ⟨rb, 0, none⟩ = some (.int .u64 A) := hb.cell 0
    have hf : wc.frozen? ⟨rb, 0, none⟩ = false := hb.frozen 0
    have hblk : ∀ v : Value, Blk (wc.setCell ⟨rb, 0, none⟩ v) rb #[v] 151 := fun v => hb.set 0 v
    obtain ⟨wA, rfl⟩ : ∃ wA, wA = wc := ⟨_, rfl⟩
    go_wp2
    go_cut [] (fun wc => Blk wc rb #[.int .u64 B] 151 ∧ KeepsB (· = rb) w wc)
    case first =>
      go_region
      all_goals go_wp2
      all_goals go_meet
      all_goals exact ⟨(hblk _).drew, (keepsB_store (own := (· = rb)) hk rfl _).drew⟩
    case rest =>
      clear hb hk hc hf hblk
      obtain ⟨hb, hk⟩ := hcut
      have hc : wc.cell? ⟨rb, 0, none⟩ = some (.int .u64 B) := hb.cell 0
      have hf : wc.frozen? ⟨rb, 0, none⟩ = false := hb.frozen 0
      have hblk : ∀ v : Value, Blk (wc.setCell ⟨rb, 0, none⟩ v) rb #[v] 151 := fun v => hb.set 0 v
      obtain ⟨wB, rfl⟩ : ∃ wB, wB = wc := ⟨_, rfl⟩
      go_wp2
      go_cut [] (fun wc => Blk wc rb #[.int .u64 C] 151 ∧ KeepsB (· = rb) w wc)
      case first =>
        go_region
        all_goals go_wp2
        all_goals go_meet
        all_goals exact ⟨(hblk _).drew, (keepsB_store (own := (· = rb)) hk rfl _).drew⟩
      case rest =>
        clear hb hk hc hf hblk
        obtain ⟨hb, hk⟩ := hcut
        have hc : wc.cell? ⟨rb, 0, none⟩ = some (.int .u64 C) := hb.cell 0
        go_wp2
        go_ret
        exact ⟨C, lC, rfl, hb, hk⟩

set_option maxRecDepth 100000 in
set_option maxHeartbeats 1000000 in
theorem nextPow_any (m : Nat) (w : World) (h1 : 0 < m) (h2 : m ≤ 255) : Calls Try.prog 79 #[.int .i64 m] w fun e w' => ∃ k : Nat, k ≤ 8 ∧ m < 2 ^ k ∧ 2 ^ k ≤ 2 * m ∧ e = .returned (.int .u64 ((2 ^ k : Nat) : Int)) ∧ w' = w := by
  have hl := fun w => bitsLen_any (m : Int) w (by omega) (by omega)
  have hk8 : Lib.bitLen m ≤ 8 := Lib.bitLen_le8 ⟨m, by omega⟩
  have hb : m < 2 ^ Lib.bitLen m ∧ 2 ^ Lib.bitLen m ≤ 2 * m := by
    have h : ∀ x : Fin 256, x.val ≠ 0 → x.val < 2 ^ Lib.bitLen x.val ∧ 2 ^ Lib.bitLen x.val ≤ 2 * x.val := by decide +kernel
    exact h ⟨m, by omega⟩ (by simp; omega)
  simp only [Int.toNat_natCast] at hl
  generalize Lib.bitLen m = k at *
  have wr : IntKind.u64.wrap (m : Int) = m := by rw [IntKind.wrap_u64]; omega
  have wk : IntKind.u64.wrap (k : Int) = k := by rw [IntKind.wrap_u64]; omega
  go_enter Try.func79, Try.ntmps79
  go_wp2_with fail
  refine (hl _).mono ?_
  rintro e w1 ⟨rfl, rfl⟩
  go_wp2_with fail
  go_ret
  refine ⟨k, hk8, hb.1, hb.2, ret_int ?_, rfl⟩
  rw [IntKind.wrap_u64, show ((2 : Int) ^ k) = ((2 ^ k : Nat) : Int) by rw [Int.natCast_pow]; rfl]
  omega

section
variable {T : TypeId} {rv : Value} {gn gl gs : Nat} {rn rl rs : Value} {lt : Nat → Nat → Bool} {n : Nat} {own : Nat → Prop} {R : Array Nat → World → Prop} {RW : World → Prop}

theorem KeepsB.then {own own' : Nat → Prop} {w W W' : World} (h : KeepsB own w W) (h' : KeepsB own' W W') (ho : ∀ b, own' b → b < w.heap.size → own b) : KeepsB own w W' :=
  ⟨h'.os.trans h.os, h'.tape.trans h.tape, h'.output.trans h.output, Nat.le_trans h.size h'.size, fun b hb hl => (h'.block b (fun e => hb (ho b e hl)) (Nat.lt_of_lt_of_le hl h.size)).trans (h.block b hb hl)⟩

set_option maxRecDepth 100000 in
set_option maxHeartbeats 2000000 in
theorem breakPatterns_any (S : SortI T rv gn gl gs rn rl rs lt n own R RW) (a b : Nat) (d : Array Nat) (w : World) (hR : R d w) (hab : a ≤ b) (hb : b ≤ n) (hsz : n ≤ 255) :
    Calls Try.prog 72 #[.iface T rv, .int .i64 a, .int .i64 b] w fun e w' => e = .returned (.tuple #[]) ∧ ∃ d', Sort.PermIn a b d d' ∧ R d' w' ∧ KeepsB own w w' := by
  have eS := S.es
  by_cases h8 : b - a < 8
  · have h8z : ¬ (8 : Int) ≤ (b : Int) - (a : Int) := by omega
    go_enter Try.func72, Try.ntmps72
    go_wp2
    go_end0
    exact ⟨rfl, d, Sort.permIn_refl _ _ _, hR, KeepsB.refl _ _⟩
  obtain ⟨m, hm⟩ : ∃ m, m = b - a := ⟨_, rfl⟩
  have em : (b : Int) - (a : Int) = (m : Int) := by omega
  have hnp := fun W => nextPow_any m W (by omega) (by omega)
  have hrb : ¬ own w.heap.size := fun h => Nat.lt_irrefl _ (S.low hR _ h)
  have wr : IntKind.u64.wrap (m : Int) = m := by rw [IntKind.wrap_u64]; omega
  have hR1 : R d (w.alloc (.cells #[.int .u64 (m : Int)] 151)) := S.below hR (below_alloc (Below.refl _ _) _ (Nat.le_refl _))
  have hb1 := Blk.new w #[.int .u64 (m : Int)] 151
  have hK1 : KeepsB own w (w.alloc (.cells #[.int .u64 (m : Int)] 151)) := KeepsB.of (below_alloc (Below.refl _ _) _ (Nat.le_refl _))
  have h8z : (8 : Int) ≤ (m : Int) := by omega
  have ea : (a : Int) + (m : Int) / 4 * 2 = ((a + m / 4 * 2 : Nat) : Int) := by omega
  obtain ⟨c, hc⟩ : ∃ c, c = a + m / 4 * 2 := ⟨_, rfl⟩
  rw [← hc] at ea
  have hc1 : a + 2 ≤ c ∧ c + 2 ≤ b := by omega
  have hml : 8 ≤ m ∧ a + m ≤ b ∧ b ≤ a + m := by omega
  clear hc hm
  go_enter Try.func72, Try.ntmps72
  go_wp2_with fail
  refine (hnp _).mono ?_
  rintro e w1 ⟨k, hk8, hk1, hk2, rfl, rfl⟩
  clear hnp
  obtain ⟨M, hM⟩ : ∃ M, M = 2 ^ k := ⟨_, rfl⟩
  rw [← hM] at hk1 hk2 ⊢
  clear hM hk8
  go_wp2_with fail
  have hd8 : decide ((8 : Int) ≤ (m : Int)) = true := decide_eq_true h8z
  go_loopw [9] (fun v wr => ∃ (idx X : Nat) (dk : Array Nat), v = .int .i64 idx ∧ c ≤ idx + 1 ∧ idx ≤ c + 2 ∧ X < 18446744073709551616 ∧ Blk wr w.heap.size #[.int .u64 X] 151 ∧ R dk wr ∧ KeepsB own w wr ∧ Sort.PermIn a b d dk) (fun v _ => c + 2 - (intOf v).toNat)
  case atStart => exact ⟨c - 1, m, d, by simp; omega, by omega, by omega, by omega, hb1, hR1, hK1, Sort.permIn_refl _ _ _⟩
  case round =>
    clear hb1 hR1 hK1
    obtain ⟨idx, X, dk, rfl, hi1, hi2, hX, hbk, hRk, hK, hP⟩ := hrel
    by_cases hle : idx ≤ c + 1
    · have hlez : (idx : Int) ≤ (c : Int) + 1 := by omega
      have hx := xorNext_any w.heap.size X hX _ hbk
      go_wp2_with fail
      refine hx.mono ?_
      rintro e w2 ⟨Y, hY, rfl, hb2, hk2⟩
      have hR2 : R dk w2 := S.keep hrb hRk hk2
      have hK2 : KeepsB own w w2 := hK.then hk2 (fun b e hl => by omega)
      have m2 := S.ms _ (S.rw hR2)
      have eM : ((M : Nat) : Int) - 1 = ((M - 1 : Nat) : Int) := by omega
      have eand : bits .and .u64 (Y : Int) ((M - 1 : Nat) : Int) = ((Y &&& (M - 1) : Nat) : Int) := bits_and_u64_nat _ _ hY (by omega)
      obtain ⟨o, ho⟩ : ∃ o, o = Y &&& (M - 1) := ⟨_, rfl⟩
      have hol : o ≤ M - 1 := by rw [ho]; exact Nat.and_le_right
      rw [← ho] at eand
      clear hx hbk hRk hK ho hk2
      by_cases hge : m ≤ o
      · have hgez : (m : Int) ≤ (o : Int) := by omega
        have hs := S.swap hR2 idx (a + (o - m)) (by omega) (by omega)
        rw [show ((a + (o - m) : Nat) : Int) = (a : Int) + ((o : Int) - (m : Int)) by omega] at hs
        have hP2 := Sort.permIn_trans _ _ _ a b hP (Sort.swp_permIn dk a b idx (a + (o - m)) (by omega) (by omega) (by omega) (by omega) (by rw [S.size hR2]; exact hb))
        go_wp2_with fail
        (with_reducible refine hs.mono ?_)
        rintro e w3 ⟨rfl, hR3, hk3⟩
        have hK3 := hK2.trans hk3
        have hb3 := hk3.blk hb2 hrb
        go_wp2_with fail
        go_roundw
        case rel => exact ⟨idx + 1, Y, _, by go_num, by omega, by omega, hY, hb3, hR3, hK3, hP2⟩
        case measure => simp [intOf]; omega
      · have hgez : ¬ (m : Int) ≤ (o : Int) := by omega
        have hs := S.swap hR2 idx (a + o) (by omega) (by omega)
        rw [show ((a + o : Nat) : Int) = (a : Int) + (o : Int) by omega] at hs
        have hP2 := Sort.permIn_trans _ _ _ a b hP (Sort.swp_permIn dk a b idx (a + o) (by omega) (by omega) (by omega) (by omega) (by rw [S.size hR2]; exact hb))
        go_wp2_with fail
        (with_reducible refine hs.mono ?_)
        rintro e w3 ⟨rfl, hR3, hk3⟩
        have hK3 := hK2.trans hk3
        have hb3 := hk3.blk hb2 hrb
        go_wp2_with fail
        go_roundw
        case rel => exact ⟨idx + 1, Y, _, by go_num, by omega, by omega, hY, hb3, hR3, hK3, hP2⟩
        case measure => simp [intOf]; omega
    · have hlez : ¬ (idx : Int) ≤ (c : Int) + 1 := by omega
      go_wp2_with fail
      go_end0
      exact ⟨rfl, dk, hP, hRk, hK⟩
end
end Go.Proofs.Ytafanlbfbfbeoaa
