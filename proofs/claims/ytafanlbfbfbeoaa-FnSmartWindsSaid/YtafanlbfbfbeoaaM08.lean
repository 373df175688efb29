/- What the proofs over smartclip lean on, part 9 of 48. -/
import Derived.Test.YtafanlbfbfbeoaaM01
import Derived.Test.YtafanlbfbfbeoaaM00
import Derived.Sort.AssemblyPlain
import Derived.Says
import Derived.Shelf.Lay
import Derived.Sort.LotD4
import Derived.Test.YtafanlbfbfbeoaaM06
import Derived.ChangeAlike
import Derived.Deep.DeepCutAuto

/- A sort over an order that lies in memory: what is asked of 'Len', 'Less' and 'Swap'. -/
namespace Go.Proofs.Ytafanlbfbfbeoaa
open Go.RowKit

section
variable {α : Type} [Inhabited α] (lt : α → α → Bool)
theorem insInner_go (a j : Nat) (d : Array α) (h : a < j) (hl : lt d[j]! d[j - 1]! = true) : Sort.insInner lt a (j - 1) (Sort.swp d j (j - 1)) = Sort.insInner lt a j d := by
  cases j with
  | zero => omega
  | succ j =>
    rw [Sort.insInner, if_pos]
    · rfl
    · simp only [Nat.add_sub_cancel] at hl
      simp [hl, h]
theorem insInner_stop (a j : Nat) (d : Array α) (h : j ≤ a ∨ lt d[j]! d[j - 1]! = false) : Sort.insInner lt a j d = d := by
  cases j with
  | zero => rfl
  | succ j =>
    rw [Sort.insInner, if_neg]
    simp only [Nat.add_sub_cancel] at h
    rcases h with h | h
    · simp; omega
    · simp [h]
theorem insOuter_go (a b i : Nat) (d : Array α) (h : i < b) : Sort.insOuter lt a b i d = Sort.insOuter lt a b (i + 1) (Sort.insInner lt a i d) := by
  rw [Sort.insOuter, if_pos h]
theorem insOuter_stop (a b i : Nat) (d : Array α) (h : ¬ i < b) : Sort.insOuter lt a b i d = d := by
  rw [Sort.insOuter, if_neg h]
end

/-- All blocks but a set's own are as they were. -/
structure KeepsB (own : Nat → Prop) (w w' : World) : Prop where
  os : w'.os = w.os
  tape : w'.tape = w.tape
  output : w'.output = w.output
  size : w.heap.size ≤ w'.heap.size
  block : ∀ b, ¬ own b → b < w.heap.size → w'.heap[b]? = w.heap[b]?

theorem KeepsB.refl (own : Nat → Prop) (w : World) : KeepsB own w w := ⟨rfl, rfl, rfl, Nat.le_refl _, fun _ _ _ => rfl⟩
theorem KeepsB.trans {own : Nat → Prop} {w w' w'' : World} (h : KeepsB own w w') (h' : KeepsB own w' w'') : KeepsB own w w'' :=
  ⟨h'.os.trans h.os, h'.tape.trans h.tape, h'.output.trans h.output, Nat.le_trans h.size h'.size, fun b hb hl => (h'.block b hb (Nat.lt_of_lt_of_le hl h.size)).trans (h.block b hb hl)⟩
theorem KeepsB.of {own : Nat → Prop} {w w' : World} (h : Below w.heap.size w w') : KeepsB own w w' := ⟨h.os, h.tape, h.output, h.size, fun b _ hl => h.block b hl⟩
/-- .. and if all of the set's own blocks are new, nothing is turned. -/
theorem KeepsB.below {own : Nat → Prop} {w w' : World} {B : Nat} (h : KeepsB own w w') (hB : B ≤ w.heap.size) (ho : ∀ b, own b → B ≤ b) : Below B w w' :=
  ⟨h.os, h.tape, h.output, h.size, fun b hb => h.block b (fun e => by have := ho b e; omega) (by omega)⟩

/-- What the sort is handed: the order d stands in the world by 'R d', in the blocks 'own'. -/
structure SortI (T : TypeId) (rv : Value) (gn gl gs : Nat) (rn rl rs : Value) (lt : Nat → Nat → Bool) (n : Nat) (own : Nat → Prop) (R : Array Nat → World → Prop) (RW : World → Prop) : Prop where
  rw : ∀ {d W}, R d W → RW W
  size : ∀ {d W}, R d W → d.size = n
  low : ∀ {d W}, R d W → ∀ b, own b → b < W.heap.size
  stay : ∀ {d W W'}, R d W → W.heap.size ≤ W'.heap.size → (∀ b, own b → W'.heap[b]? = W.heap[b]?) → R d W'
  mn : ∀ W, RW W → Sem.run Try.prog (method 276 T rv "Len") W = .ok (gn, rn) W
  ml : ∀ W, RW W → Sem.run Try.prog (method 276 T rv "Less") W = .ok (gl, rl) W
  ms : ∀ W, RW W → Sem.run Try.prog (method 276 T rv "Swap") W = .ok (gs, rs) W
  en : ∀ args w, (callFunc gn args).run Try.prog w = .ok (.enter gn args) w
  el : ∀ args w, (callFunc gl args).run Try.prog w = .ok (.enter gl args) w
  es : ∀ args w, (callFunc gs args).run Try.prog w = .ok (.enter gs args) w
  len : ∀ {d W}, R d W → Calls Try.prog gn #[rn] W fun e w' => e = .returned (.int .i64 n) ∧ Below W.heap.size W w'
  less : ∀ {d W}, R d W → ∀ i j : Nat, i < n → j < n → i ≠ j → Calls Try.prog gl #[rl, .int .i64 i, .int .i64 j] W fun e w' => e = .returned (.bool (lt d[i]! d[j]!)) ∧ Below W.heap.size W w'
  swap : ∀ {d W}, R d W → ∀ i j : Nat, i < n → j < n → Calls Try.prog gs #[rs, .int .i64 i, .int .i64 j] W fun e w' => e = .returned (.tuple #[]) ∧ R (Sort.swp d i j) w' ∧ KeepsB own W w'

section
variable {T : TypeId} {rv : Value} {gn gl gs : Nat} {rn rl rs : Value} {lt : Nat → Nat → Bool} {n : Nat} {own : Nat → Prop} {R : Array Nat → World → Prop} {RW : World → Prop}

theorem SortI.below (S : SortI T rv gn gl gs rn rl rs lt n own R RW) {d : Array Nat} {W W' : World} (h : R d W) (hb : Below W.heap.size W W') : R d W' := S.stay h hb.size fun b hb' => hb.block b (S.low h b hb')

set_option maxRecDepth 100000 in
set_option maxHeartbeats 2000000 in
theorem insertionSort_any (S : SortI T rv gn gl gs rn rl rs lt n own R RW) (a b : Nat) (d : Array Nat) (w : World) (hR : R d w) (hab : a ≤ b) (hb : b ≤ n) (hsz : n < 1000000) :
    Calls Try.prog 70 #[.iface T rv, .int .i64 a, .int .i64 b] w fun e w' => e = .returned (.tuple #[]) ∧ R (Sort.insertionSort lt d a b) w' ∧ KeepsB own w w' := by
  have mL := S.ml; have mS := S.ms; have eL := S.el; have eS := S.es
  go_enter Try.func70, Try.ntmps70
  go_wp2
  go_loopw [6] (fun vi wr => ∃ (i : Nat) (dk : Array Nat), vi = .int .i64 i ∧ a < i ∧ i ≤ b + 1 ∧ R dk wr ∧ KeepsB own w wr ∧ Hid (Sort.insOuter lt a b i dk = Sort.insOuter lt a b (a + 1) d)) (fun vi _ => b + 1 - (intOf vi).toNat)
  case atStart => exact ⟨a + 1, d, by go_num, by omega, by omega, hR, KeepsB.refl _ _, rfl⟩
  case round =>
    obtain ⟨i, dk, rfl, hai, hib, hRk, hK, HO⟩ := hrel
    go_wp2
    · have hlt : i < b := by assumption
      obtain ⟨wo, rfl⟩ : ∃ wo, wo = wr := ⟨_, rfl⟩
      go_loopw [7] (fun vj wr2 => ∃ (j : Nat) (dj : Array Nat), vj = .int .i64 j ∧ a ≤ j ∧ j ≤ i ∧ R dj wr2 ∧ KeepsB own w wr2 ∧ Hid (Sort.insInner lt a j dj = Sort.insInner lt a i dk)) (fun vj _ => (intOf vj).toNat)
      case atStart => exact ⟨i, dk, rfl, by omega, Nat.le_refl _, hRk, hK, rfl⟩
      case round =>
        clear hRk hK
        obtain ⟨j, dj, rfl, haj, hji, hRj, hK, HI⟩ := hrel
        have m0 := mL wr (S.rw hRj)
        have OUT : Hid ((j ≤ a ∨ lt dj[j]! dj[j - 1]! = false) → Sort.insOuter lt a b (i + 1) dj = Sort.insOuter lt a b (a + 1) d) := fun hs => by
          rw [← HO.out, insOuter_go _ _ _ _ _ hlt, ← HI.out, insInner_stop _ _ _ _ hs]
        by_cases hja : a < j
        · have hl := S.less hRj j (j - 1) (by omega) (by omega) (by omega)
          have hsz := S.size hRj
          rw [show (((j - 1 : Nat) : Int)) = (j : Int) - 1 by omega] at hl
          cases hlv : lt dj[j]! dj[j - 1]! with
          | true =>
            rw [hlv] at hl
            have hsw := fun W hb => S.swap (S.below hRj (W' := W) hb) j (j - 1) (by omega) (by omega)
            rw [show (((j - 1 : Nat) : Int)) = (j : Int) - 1 by omega] at hsw
            have HG : Hid (Sort.insInner lt a (j - 1) (Sort.swp dj j (j - 1)) = Sort.insInner lt a i dk) := by show _ = _; rw [← HI.out, insInner_go lt a j dj hja hlv]
            clear HI OUT HO
            go_wp2_with (first
              | (go_at_fn gl; refine hl.mono ?_; rintro e w1 ⟨rfl, hb1⟩; have m1 := mS _ (S.rw (S.below hRj hb1)); have hsw1 := hsw _ hb1; have hK1 := hK.trans (KeepsB.of hb1))
              | (go_at_fn gs; refine hsw1.mono ?_; rintro e w2 ⟨rfl, hR2, hk2⟩; have hK2 := hK1.trans hk2))
            go_roundw
            case rel =>
              (repeat apply Exists.intro)
              exact ⟨⟨j - 1, _, by congr 1 <;> omega, by omega, by omega, hR2, hK2, HG⟩, by rw [decide_eq_true hlt, show ((j - 1 : Nat) : Int) = (j : Int) - 1 by omega]⟩
            case measure => simp [intOf]; omega
          | false =>
            rw [hlv] at hl
            have HG := OUT.out (Or.inr hlv)
            have HG : Hid (Sort.insOuter lt a b (i + 1) dj = Sort.insOuter lt a b (a + 1) d) := HG
            clear HI OUT HO
            go_wp2_with (go_at_fn gl; refine hl.mono ?_; rintro e w1 ⟨rfl, hb1⟩)
            go_roundw
            case rel => exact ⟨i + 1, dj, by go_num, by omega, by omega, S.below hRj hb1, hK.trans (KeepsB.of hb1), HG⟩
            case measure => simp [intOf]; omega
        · have HG : Hid (Sort.insOuter lt a b (i + 1) dj = Sort.insOuter lt a b (a + 1) d) := OUT.out (Or.inl (by omega))
          clear HI OUT HO
          go_wp2
          go_roundw
          case rel => exact ⟨i + 1, dj, by go_num, by omega, by omega, hRj, hK, HG⟩
          case measure => simp [intOf]; omega
    · have hge : ¬ i < b := by assumption
      go_end0
      exact ⟨rfl, by unfold Sort.insertionSort; rw [← HO.out, insOuter_stop _ _ _ _ _ hge]; exact hRk, hK⟩
end
end Go.Proofs.Ytafanlbfbfbeoaa

/- The sort's pivot. -/
namespace Go.Proofs.Ytafanlbfbfbeoaa
open Go.RowKit

section
variable {T : TypeId} {rv : Value} {gn gl gs : Nat} {rn rl rs : Value} {lt : Nat → Nat → Bool} {n : Nat} {own : Nat → Prop} {R : Array Nat → World → Prop} {RW : World → Prop}

/-- A store into a block that is no part of what is sorted. -/
theorem SortI.store (S : SortI T rv gn gl gs rn rl rs lt n own R RW) {d : Array Nat} {W : World} (h : R d W) {a : Addr} (ha : ¬ own a.block) (v : Value) : R d (W.setCell a v) :=
  S.stay h (by simp) fun b hb => Below.heap_setCell W a v b fun e => ha (e ▸ hb)

theorem keepsB_store {own : Nat → Prop} {w W : World} (h : KeepsB own w W) {a : Addr} (ha : own a.block) (v : Value) : KeepsB own w (W.setCell a v) :=
  ⟨h.os, h.tape, h.output, by simpa using h.size, fun b hb hl => (Below.heap_setCell W a v b fun e => hb (e ▸ ha)).trans (h.block b hb hl)⟩

theorem KeepsB.blk {own : Nat → Prop} {w W : World} (h : KeepsB own w W) {b : Nat} {cs : Array Value} {e : TypeId} (hb : Blk w b cs e) (ho : ¬ own b) : Blk W b cs e := (h.block b ho hb.lt).trans hb

/-- What is sorted stays where only another block is turned. -/
theorem SortI.keep (S : SortI T rv gn gl gs rn rl rs lt n own R RW) {d : Array Nat} {cb : Nat} (hcb : ¬ own cb) {W W' : World} (h : R d W) (hk : KeepsB (· = cb) W W') : R d W' :=
  S.stay h hk.size fun b hb => hk.block b (fun e => hcb (e ▸ hb)) (S.low h b hb)

set_option maxRecDepth 100000 in
set_option maxHeartbeats 1000000 in
theorem order2_any (S : SortI T rv gn gl gs rn rl rs lt n own R RW) (a b cb s : Nat) (d : Array Nat) (W : World) (hR : R d W) (ha : a < n) (hb : b < n) (hab : a ≠ b) (_hcb : ¬ own cb) (hS : Blk W cb #[.int .i64 s] 3) (hs : s < 1000000) :
    Calls Try.prog 83 #[.iface T rv, .int .i64 a, .int .i64 b, .pointer (some ⟨cb, 0, none⟩)] W fun e w' =>
      e = .returned (.tuple #[.int .i64 (Sort.order2 lt d a b s).1, .int .i64 (Sort.order2 lt d a b s).2.1]) ∧ Blk w' cb #[.int .i64 (Sort.order2 lt d a b s).2.2] 3 ∧ KeepsB (· = cb) W w' := by
  have m0 := S.ml W (S.rw hR)
  have eL := S.el
  have hl := S.less hR b a hb ha (Ne.symm hab)
  have hSw := fun W' hb => hS.below (w' := W') hb hS.lt
  go_enter Try.func83, Try.ntmps83
  cases hlv : lt d[b]! d[a]! with
  | true =>
    rw [hlv] at hl
    have e2 : Sort.order2 lt d a b s = (b, a, s + 1) := by simp [Sort.order2, hlv]
    go_wp2_with (go_at_fn gl; refine hl.mono ?_; rintro e w1 ⟨rfl, hb1⟩; have hS1 := hSw _ hb1; have c0 : w1.cell? ⟨cb, 0, none⟩ = some (.int .i64 s) := hS1.cell 0; have c1 : w1.frozen? ⟨cb, 0, none⟩ = false := hS1.frozen 0)
    go_ret2
    rw [e2]
    exact ⟨rfl, hS1.set 0 _, keepsB_store (own := (· = cb)) (KeepsB.of hb1) rfl _⟩
  | false =>
    rw [hlv] at hl
    have e2 : Sort.order2 lt d a b s = (a, b, s) := by simp [Sort.order2, hlv]
    go_wp2_with (go_at_fn gl; refine hl.mono ?_; rintro e w1 ⟨rfl, hb1⟩; have hS1 := hSw _ hb1)
    go_ret2
    rw [e2]
    exact ⟨rfl, hS1, KeepsB.of hb1⟩

theorem order2_in (d : Array Nat) (a b s : Nat) : ((Sort.order2 lt d a b s).1 = a ∧ (Sort.order2 lt d a b s).2.1 = b ∨ (Sort.order2 lt d a b s).1 = b ∧ (Sort.order2 lt d a b s).2.1 = a) ∧ (Sort.order2 lt d a b s).2.2 ≤ s + 1 := by
  unfold Sort.order2
  split <;> simp

set_option maxRecDepth 100000 in
set_option maxHeartbeats 1000000 in
theorem median_any (S : SortI T rv gn gl gs rn rl rs lt n own R RW) (a b c cb s : Nat) (d : Array Nat) (W : World) (hR : R d W) (ha : a < n) (hb : b < n) (hc : c < n) (hab : a ≠ b) (hac : a ≠ c) (hbc : b ≠ c) (hcb : ¬ own cb) (hS : Blk W cb #[.int .i64 s] 3) (hs : s + 3 < 1000000) :
    Calls Try.prog 82 #[.iface T rv, .int .i64 a, .int .i64 b, .int .i64 c, .pointer (some ⟨cb, 0, none⟩)] W fun e w' =>
      e = .returned (.int .i64 (Sort.median lt d a b c s).1) ∧ Blk w' cb #[.int .i64 (Sort.median lt d a b c s).2] 3 ∧ KeepsB (· = cb) W w' := by
  obtain ⟨h1, h1'⟩ := order2_in (lt := lt) d a b s
  obtain ⟨h2, h2'⟩ := order2_in (lt := lt) d (Sort.order2 lt d a b s).2.1 c (Sort.order2 lt d a b s).2.2
  have hm : Hid (Sort.median lt d a b c s = ((Sort.order2 lt d (Sort.order2 lt d a b s).1 (Sort.order2 lt d (Sort.order2 lt d a b s).2.1 c (Sort.order2 lt d a b s).2.2).1 (Sort.order2 lt d (Sort.order2 lt d a b s).2.1 c (Sort.order2 lt d a b s).2.2).2.2).2.1, (Sort.order2 lt d (Sort.order2 lt d a b s).1 (Sort.order2 lt d (Sort.order2 lt d a b s).2.1 c (Sort.order2 lt d a b s).2.2).1 (Sort.order2 lt d (Sort.order2 lt d a b s).2.1 c (Sort.order2 lt d a b s).2.2).2.2).2.2)) := rfl
  obtain ⟨x1, x2, x3, hx⟩ : ∃ x1 x2 x3, Sort.order2 lt d a b s = (x1, x2, x3) := ⟨_, _, _, rfl⟩
  have o1 := order2_any S a b cb s d W hR ha hb hab hcb hS (by omega)
  rw [hx] at h1 h1' h2 h2' hm o1
  simp only at h1 h1' h2 h2' hm o1
  obtain ⟨y1, y2, y3, hy⟩ : ∃ y1 y2 y3, Sort.order2 lt d x2 c x3 = (y1, y2, y3) := ⟨_, _, _, rfl⟩
  have o2 := fun W hR hS => order2_any S x2 c cb x3 d W hR (by omega) hc (by omega) hcb hS (by omega)
  rw [hy] at h2 h2' hm
  simp only [hy] at h2 h2' hm o2
  have o3 := fun W hR hS => order2_any S x1 y1 cb y3 d W hR (by omega) (by omega) (by omega) hcb hS (by omega)
  obtain ⟨z1, z2, z3, hz⟩ : ∃ z1 z2 z3, Sort.order2 lt d x1 y1 y3 = (z1, z2, z3) := ⟨_, _, _, rfl⟩
  simp only [hz] at hm o3
  clear hx hy hz hS
  go_enter Try.func82, Try.ntmps82
  go_wp2_with fail
  refine o1.mono ?_
  rintro e w1 ⟨rfl, hS1, hk1⟩
  go_wp2_with fail
  refine (o2 _ (S.keep hcb hR hk1) hS1).mono ?_
  rintro e w2 ⟨rfl, hS2, hk2⟩
  go_wp2_with fail
  refine (o3 _ (S.keep hcb (S.keep hcb hR hk1) hk2) hS2).mono ?_
  rintro e w3 ⟨rfl, hS3, hk3⟩
  go_wp2_with fail
  go_ret
  rw [hm.out]
  exact ⟨rfl, hS3, (hk1.trans hk2).trans hk3⟩

set_option maxRecDepth 100000 in
set_option maxHeartbeats 1000000 in
theorem medianAdjacent_any (S : SortI T rv gn gl gs rn rl rs lt n own R RW) (a cb s : Nat) (d : Array Nat) (W : World) (hR : R d W) (ha : 1 ≤ a) (ha' : a + 1 < n) (hn : n < 1000000) (hcb : ¬ own cb) (hS : Blk W cb #[.int .i64 s] 3) (hs : s + 3 < 1000000) :
    Calls Try.prog 81 #[.iface T rv, .int .i64 a, .pointer (some ⟨cb, 0, none⟩)] W fun e w' =>
      e = .returned (.int .i64 (Sort.medianAdjacent lt d a s).1) ∧ Blk w' cb #[.int .i64 (Sort.medianAdjacent lt d a s).2] 3 ∧ KeepsB (· = cb) W w' := by
  have hm := median_any S (a - 1) a (a + 1) cb s d W hR (by omega) (by omega) ha' (by omega) (by omega) (by omega) hcb hS hs
  rw [show ((a - 1 : Nat) : Int) = (a : Int) - 1 by omega, show ((a + 1 : Nat) : Int) = (a : Int) + 1 by omega] at hm
  go_enter Try.func81, Try.ntmps81
  go_wp2_with fail
  refine hm.mono ?_
  rintro e w1 ⟨rfl, hS1, hk1⟩
  go_wp2_with fail
  go_ret
  exact ⟨rfl, hS1, hk1⟩

theorem median_in (d : Array Nat) (a b c s : Nat) : (Sort.median lt d a b c s).1 = a ∨ (Sort.median lt d a b c s).1 = b ∨ (Sort.median lt d a b c s).1 = c := by
  obtain ⟨h1, _⟩ := order2_in (lt := lt) d a b s
  obtain ⟨h2, _⟩ := order2_in (lt := lt) d (Sort.order2 lt d a b s).2.1 c (Sort.order2 lt d a b s).2.2
  obtain ⟨h3, _⟩ := order2_in (lt := lt) d (Sort.order2 lt d a b s).1 (Sort.order2 lt d (Sort.order2 lt d a b s).2.1 c (Sort.order2 lt d a b s).2.2).1 (Sort.order2 lt d (Sort.order2 lt d a b s).2.1 c (Sort.order2 lt d a b s).2.2).2.2
  show (Sort.order2 lt d (Sort.order2 lt d a b s).1 (Sort.order2 lt d (Sort.order2 lt d a b s).2.1 c (Sort.order2 lt d a b s).2.2).1 (Sort.order2 lt d (Sort.order2 lt d a b s).2.1 c (Sort.order2 lt d a b s).2.2).2.2).2.1 = a ∨ _
  unfold Sort.median
  simp only
  omega

end
end Go.Proofs.Ytafanlbfbfbeoaa

/- The endpoints, as the sort sees them. -/
namespace Go.Proofs.Ytafanlbfbfbeoaa
open Go.RowKit

/-- An endpoint of a part. -/
structure EPt where
  x : Int
  y : Int
  st : Bool
  side : Nat
  idx : Nat

/-- Its place along the box, from the corner at the top left, turning left. -/
def EPt.pos (E : EPt) : Int := E.side * 4000000 + (if E.side = 1 then - E.y else if E.side = 2 then E.x else if E.side = 3 then E.y else - E.x)

def epC (E : EPt) (u : Bool) (o : Nat) : Array Value := #[.float .f64 (F E.x), .float .f64 (F E.y), .bool E.st, .bool u, .int .u8 E.side, .int .i64 E.idx, .int .i64 o]

def EPt.ok (E : EPt) : Prop := Sm E.x ∧ Sm E.y ∧ 1 ≤ E.side ∧ E.side ≤ 4

theorem pos_lt1 (x1 y1 x2 y2 : Int) (st1 st2 : Bool) (i1 i2 : Nat) : EPt.pos ⟨x1, y1, st1, 1, i1⟩ < EPt.pos ⟨x2, y2, st2, 1, i2⟩ ↔ y2 < y1 := by
  unfold EPt.pos
  dsimp only
  rw [if_pos rfl, if_pos rfl]
  generalize ((1 : Nat) : Int) * 4000000 = K
  omega
theorem pos_lt2 (x1 y1 x2 y2 : Int) (st1 st2 : Bool) (i1 i2 : Nat) : EPt.pos ⟨x1, y1, st1, 2, i1⟩ < EPt.pos ⟨x2, y2, st2, 2, i2⟩ ↔ x1 < x2 := by
  unfold EPt.pos
  dsimp only
  rw [if_neg (by decide), if_pos rfl, if_neg (by decide), if_pos rfl]
  generalize ((2 : Nat) : Int) * 4000000 = K
  omega
theorem pos_lt3 (x1 y1 x2 y2 : Int) (st1 st2 : Bool) (i1 i2 : Nat) : EPt.pos ⟨x1, y1, st1, 3, i1⟩ < EPt.pos ⟨x2, y2, st2, 3, i2⟩ ↔ y1 < y2 := by
  unfold EPt.pos
  dsimp only
  rw [if_neg (by decide), if_neg (by decide), if_pos rfl, if_neg (by decide), if_neg (by decide), if_pos rfl]
  generalize ((3 : Nat) : Int) * 4000000 = K
  omega
theorem pos_lt4 (x1 y1 x2 y2 : Int) (st1 st2 : Bool) (i1 i2 : Nat) : EPt.pos ⟨x1, y1, st1, 4, i1⟩ < EPt.pos ⟨x2, y2, st2, 4, i2⟩ ↔ x2 < x1 := by
  unfold EPt.pos
  dsimp only
  rw [if_neg (by decide), if_neg (by decide), if_neg (by decide), if_neg (by decide), if_neg (by decide), if_neg (by decide)]
  generalize ((4 : Nat) : Int) * 4000000 = K
  omega

/-- The order d of n endpoints stands in the world. -/
structure EpsW (n : Nat) (E : Nat → EPt) (eb : Nat → Nat) (sb pb : Nat) (te : TypeId) (mv : Value) (cap : Nat) (tl : Array Value) (Q : Array Nat → (Nat → Nat) → Prop) (d : Array Nat) (W : World) : Prop where
  size : d.size = n
  ids : ∀ k, k < n → d[k]! < n
  se : Blk W sb #[mv, .slice (some ⟨pb, 0, none⟩) n cap] 112
  row : Blk W pb (d.map (fun e => Value.pointer (some ⟨eb e, 0, none⟩)) ++ tl) te
  eps : ∃ oe : Nat → Nat, Q d oe ∧ ∀ e, e < n → oe e < n ∧ Blk W (eb e) (epC (E e) false (oe e)) 108

theorem row_at {eb : Nat → Nat} {d : Array Nat} {tl : Array Value} {W : World} {pb : Nat} {te : TypeId} (h : Blk W pb (d.map (fun e => Value.pointer (some ⟨eb e, 0, none⟩)) ++ tl) te) (k : Nat) (hk : k < d.size) : W.cell? ⟨pb, k, none⟩ = some (.pointer (some ⟨eb d[k]!, 0, none⟩)) := by
  rw [h.cell k, Array.getElem?_append_left (by simpa using hk)]
  simp [hk]

set_option maxRecDepth 100000 in
set_option maxHeartbeats 4000000 in
theorem less_far (W : World) (sb pb n cap g1 g2 i j : Nat) (_mx1 : Value) (x1 y1 x2 y2 : Int) (st1 st2 : Bool) (ix1 ix2 : Nat) (s1 s2 : Nat) (hi : i < n) (hj : j < n) (_hn : n ≤ 255) (hx1 : Sm x1) (hy1 : Sm y1) (hx2 : Sm x2) (hy2 : Sm y2) (hs1 : s1 ≤ 4) (hs2 : s2 ≤ 4) (hss : s1 ≠ s2)
    (c1 : W.cell? ⟨sb, 1, none⟩ = some (.slice (some ⟨pb, 0, none⟩) n cap)) (r1 : W.cell? ⟨pb, i, none⟩ = some (.pointer (some ⟨g1, 0, none⟩))) (r2 : W.cell? ⟨pb, j, none⟩ = some (.pointer (some ⟨g2, 0, none⟩)))
    (_p0 : W.cell? ⟨g1, 0, none⟩ = some (.float .f64 (F x1))) (_p1 : W.cell? ⟨g1, 1, none⟩ = some (.float .f64 (F y1))) (p4 : W.cell? ⟨g1, 4, none⟩ = some (.int .u8 s1))
    (_q0 : W.cell? ⟨g2, 0, none⟩ = some (.float .f64 (F x2))) (_q1 : W.cell? ⟨g2, 1, none⟩ = some (.float .f64 (F y2))) (q4 : W.cell? ⟨g2, 4, none⟩ = some (.int .u8 s2)) :
    Calls Try.prog 110 #[.pointer (some ⟨sb, 0, none⟩), .int .i64 i, .int .i64 j] W fun e w' => e = .returned (.bool (decide (EPt.pos ⟨x1, y1, st1, s1, ix1⟩ < EPt.pos ⟨x2, y2, st2, s2, ix2⟩))) ∧ Below W.heap.size W w' := by
  have hiz : (i : Int) < (n : Int) := by omega
  have hjz : (j : Int) < (n : Int) := by omega
  have hz : ((s1 : Int) != (s2 : Int)) = true := by simpa using (fun h : (s1 : Int) = s2 => hss (by omega))
  have hr : decide (s1 < s2) = decide (EPt.pos ⟨x1, y1, st1, s1, ix1⟩ < EPt.pos ⟨x2, y2, st2, s2, ix2⟩) := by
    apply decide_eq_decide.2
    simp only [EPt.pos]
    unfold Sm at hx1 hy1 hx2 hy2
    omega
  rw [← hr]
  clear hr
  go_enter Try.func110, Try.ntmps110
  go_wp2
  go_region
  all_goals go_wp2
  all_goals go_region
  all_goals go_wp2
  all_goals go_ret
  all_goals exact ⟨ret_bool rfl, (Below.refl _ _).drew.drew⟩

end Go.Proofs.Ytafanlbfbfbeoaa
