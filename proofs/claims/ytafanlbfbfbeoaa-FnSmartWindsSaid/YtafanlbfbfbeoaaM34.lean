/- What the proofs over smartclip lean on, part 35 of 48. -/
import Derived.Test.YtafanlbfbfbeoaaM32
import Derived.Test.YtafanlbfbfbeoaaM06
import Derived.IntWalk
import Derived.Deep.QuietTactic
import Derived.BigQuiet

/- Whether a ring is simple. -/
namespace Go.Proofs.Ytafanlbfbfbeoaa
open Go.RowKit

theorem seg_near {P Q : Int × Int} (hP : Near P) (hQ : Near Q) (ho : Octi P Q) : ∀ s ∈ segS P Q, Near s.1 ∧ Near s.2 := fun s hs => by
  unfold segS at hs
  obtain ⟨k, hk, rfl⟩ := List.mem_map.1 hs
  have hk' := List.mem_range.1 hk
  have hl := len_nonneg P Q
  have hQ' : Near (ptK P (dirK P Q) (lenK P Q)) := by rw [pt_len ho]; exact hQ
  exact ⟨near_mid (dir_ok P Q) hP hQ' (by omega) (by omega), near_mid (dir_ok P Q) hP hQ' (by omega) (by omega)⟩

theorem stepsR_near : ∀ (l : List (Int × Int)) (P : Int × Int), Near P → (∀ Q ∈ l, Near Q) → OctiL P l → ∀ s ∈ stepsR P l, Near s.1 ∧ Near s.2
  | [], _, _, _, _ => by simp [stepsR]
  | Q :: l, P, hP, hl, ho => fun s hs => by
    rw [stepsR] at hs
    rcases List.mem_append.1 hs with h | h
    · exact seg_near hP (hl Q (by simp)) ho.1 s h
    · exact stepsR_near l Q (hl Q (by simp)) (fun R hR => hl R (by simp [hR])) ho.2 s h

theorem stepsL_near {ps : List (Int × Int)} (hn : ∀ p ∈ ps, Near p) (ho : OctiL (ps.headD (0, 0)) ps) : ∀ s ∈ stepsL ps, Near s.1 ∧ Near s.2 := by
  cases ps with
  | nil => simp [stepsL]
  | cons P l => exact stepsR_near l P (hn P (by simp)) (fun Q hQ => hn Q (by simp [hQ])) ho.2

/-- Two steps that are apart. -/
def ApartS (s t : (Int × Int) × (Int × Int)) : Prop := s.1 ≠ t.1 ∧ ¬ (s.1.1 + s.2.1 = t.1.1 + t.2.1 ∧ s.1.2 + s.2.2 = t.1.2 + t.2.2)

/-- What is told of a ring if it is called simple. -/
def SimpleB (ss : List ((Int × Int) × (Int × Int))) : Prop :=
  3 ≤ ss.length ∧ ss.length ≤ 600 ∧ (∀ i k (hi : i < ss.length) (hk : k < i), ApartS ss[i] (ss[k]'(by omega))) ∧ ∃ (h : 0 < ss.length), (ss[ss.length - 1]'(by omega)).2 = ss[0].1

def SimpleRet (ss : List ((Int × Int) × (Int × Int))) (w : World) (e : Ending) (w' : World) : Prop :=
  ∃ b : Bool, e = .returned (.bool b) ∧ (b = true → SimpleB ss) ∧ Below w.heap.size w w'

theorem SimpleRet.no {ss : List ((Int × Int) × (Int × Int))} {w w' : World} (h : Below w.heap.size w w') : SimpleRet ss w (.returned (.bool false)) w' := ⟨false, rfl, fun h => (by cases h), h⟩

set_option maxRecDepth 100000 in
set_option maxHeartbeats 2000000 in
theorem simple_any (ao : Option Addr) (cap : Nat) (ps : List (Int × Int)) (B : Nat) (w : World) (hlen : ps.length ≤ 3000) (hn : ∀ p ∈ ps, Near p) (ho : OctiL (ps.headD (0, 0)) ps)
    (h : w.ownsRow B 25 2 (.slice ao ps.length cap) ps.length (ps.flatMap spotE)) :
    Calls Try.prog 10 #[.slice ao ps.length cap] w (SimpleRet (stepsL ps) w) := by
  have hnear := stepsL_near hn ho
  have hst := fun W hr => steps_any ao cap ps B W hlen hn (fun i hi => octi_get ho i hi) hr
  have hsl := stepsL_len hn
  generalize stepsL ps = ss at *
  clear ho hn
  go_enter Try.func10, Try.ntmps10
  go_wp2_with fail
  refine (hst _ h).mono ?_
  rintro e w1 ⟨ao1, cap1, rfl, _, hos, hb1⟩
  clear hst h
  by_cases hlo : ss.length < 3
  · have t0 : decide ((ss.length : Int) < 3) = true := decide_eq_true (by omega)
    go_wp2_with fail
    go_ret
    exact SimpleRet.no hb1
  by_cases hhi : 600 < ss.length
  · have t0 : decide ((ss.length : Int) < 3) = false := decide_eq_false (by omega)
    have t1 : decide ((600 : Int) < ss.length) = true := decide_eq_true (by omega)
    go_wp2_with fail
    go_ret
    exact SimpleRet.no hb1
  have t0 : decide ((ss.length : Int) < 3) = false := decide_eq_false (by omega)
  have t1 : decide ((600 : Int) < ss.length) = false := decide_eq_false (by omega)
  obtain ⟨g, hg, hc⟩ := steps_read hos
  obtain ⟨rfl, hgs, _⟩ := hg (by omega)
  clear hg hos
  have hlo' : 3 ≤ ss.length := by omega
  have hhi' : ss.length ≤ 600 := by omega
  clear hlo hhi hsl
  go_wp2_with fail
  clear t0 t1
  go_loopw [28] (fun vi wr => ∃ i : Nat, i ≤ ss.length ∧ vi = .int .i64 i ∧ Below w1.heap.size w1 wr ∧ Hid (∀ j k (hj : j < ss.length) (hk : k < j), j < i → ApartS ss[j] (ss[k]'(by omega)))) (fun vi _ => ss.length - (intOf vi).toNat)
  case atStart => exact ⟨0, by omega, rfl, Below.refl _ _, fun j k _ _ h => by omega⟩
  case round =>
    obtain ⟨i, hi, rfl, hbel, HA⟩ := hrel
    by_cases hlt : i < ss.length
    ·
      -- DONE
      obtain ⟨c0, c1, c2, c3⟩ := hc i hlt
      have d0 := (hbel.cell (by exact hgs)).trans c0
      have d1 := (hbel.cell (by exact hgs)).trans c1
      have d2 := (hbel.cell (by exact hgs)).trans c2
      have d3 := (hbel.cell (by exact hgs)).trans c3
      have hsn := hnear _ (List.getElem_mem hlt)
      obtain ⟨s, hs⟩ : ∃ s, s = ss[i] := ⟨_, rfl⟩
      rw [← hs] at d0 d1 d2 d3 hsn
      have HS : Hid (s = ss[i]) := hs
      clear hs c0 c1 c2 c3
      have hgw : g < wr.heap.size := Nat.lt_of_lt_of_le hgs hbel.size
      have hblk := Blk.new wr #[.int .i64 s.1.1, .int .i64 s.1.2, .int .i64 s.2.1, .int .i64 s.2.2] 63
      have hb2 : Below w1.heap.size w1 (wr.alloc (.cells #[.int .i64 s.1.1, .int .i64 s.1.2, .int .i64 s.2.1, .int .i64 s.2.2] 63)) := below_alloc hbel _ (Nat.le_refl _)
      obtain ⟨b, hb⟩ : ∃ b, b = wr.heap.size := ⟨_, rfl⟩
      rw [← hb] at hblk
      go_wp2_with fail
      rw [← hb]
      obtain ⟨wo, hwo⟩ : ∃ wo, wo = wr.alloc (.cells #[.int .i64 s.1.1, .int .i64 s.1.2, .int .i64 s.2.1, .int .i64 s.2.2] 63) := ⟨_, rfl⟩
      rw [← hwo] at hblk hb2 ⊢
      clear hwo hb hbel d0 d1 d2 d3 hgw
      go_loopw [7] (fun vk wr2 => ∃ k : Nat, k ≤ i ∧ vk = .int .i64 k ∧ Below w1.heap.size w1 wr2 ∧ Blk wr2 b #[.int .i64 s.1.1, .int .i64 s.1.2, .int .i64 s.2.1, .int .i64 s.2.2] 63 ∧ Hid (∀ k' (hk : k' < i), k' < k → ApartS s (ss[k']'(by omega)))) (fun vk _ => i - (intOf vk).toNat)
      case atStart => exact ⟨0, by omega, rfl, hb2, hblk, fun k _ h => by omega⟩
      case round =>
        clear hblk hb2
        obtain ⟨k, hk, rfl, hbel, hblk, HK⟩ := hrel
        by_cases hlt2 : k < i
        · obtain ⟨c0, c1, c2, c3⟩ := hc k (by omega)
          have d0 := (hbel.cell (by exact hgs)).trans c0
          have d1 := (hbel.cell (by exact hgs)).trans c1
          have d2 := (hbel.cell (by exact hgs)).trans c2
          have d3 := (hbel.cell (by exact hgs)).trans c3
          have htn := hnear _ (List.getElem_mem (show k < ss.length by omega))
          obtain ⟨t, ht⟩ : ∃ t, t = ss[k]'(by omega) := ⟨_, rfl⟩
          rw [← ht] at d0 d1 d2 d3 htn
          have HT : Hid (t = ss[k]'(by omega)) := ht
          clear ht c0 c1 c2 c3
          have e0 : wr.cell? ⟨b, 0, none⟩ = some (.int .i64 s.1.1) := hblk.cell 0
          have e1 : wr.cell? ⟨b, 1, none⟩ = some (.int .i64 s.1.2) := hblk.cell 1
          have e2 : wr.cell? ⟨b, 2, none⟩ = some (.int .i64 s.2.1) := hblk.cell 2
          have e3 : wr.cell? ⟨b, 3, none⟩ = some (.int .i64 s.2.2) := hblk.cell 3
          have hgw : g < wr.heap.size := Nat.lt_of_lt_of_le hgs hbel.size
          have hbw := hblk.lt
          obtain ⟨⟨⟨n1, n2⟩, n3, n4⟩, ⟨n5, n6⟩, n7, n8⟩ := hsn
          obtain ⟨⟨⟨m1, m2⟩, m3, m4⟩, ⟨m5, m6⟩, m7, m8⟩ := htn
          have bt := (hblk.alloc (.cells #[.int .i64 t.1.1, .int .i64 t.1.2, .int .i64 t.2.1, .int .i64 t.2.2] 63))
          have hB2 := below_alloc hbel (.cells #[.int .i64 t.1.1, .int .i64 t.1.2, .int .i64 t.2.1, .int .i64 t.2.2] 63) (Nat.le_refl _)
          have hgo : Hid (∀ wq, Below w1.heap.size w1 wq → SimpleRet ss w (.returned (.bool false)) wq) := fun wq h => SimpleRet.no (hb1.trans (h.mono hb1.size))
          have HK2 : Hid (¬ (s.1.1 = t.1.1 ∧ s.1.2 = t.1.2) → ¬ (s.1.1 + s.2.1 = t.1.1 + t.2.1 ∧ s.1.2 + s.2.2 = t.1.2 + t.2.2) → ∀ k' (hk : k' < i), k' < k + 1 → ApartS s (ss[k']'(by omega))) := fun h1 h2 k' hk' h => by
            by_cases e : k' = k
            · subst e; rw [← HT.out]; exact ⟨fun e => h1 ⟨congrArg Prod.fst e, congrArg Prod.snd e⟩, h2⟩
            · exact HK.out k' hk' (by omega)
          clear HK
          by_cases p0 : s.1.1 = t.1.1
          · have e0 : (s.1.1 == t.1.1) = true := by simpa using p0
            by_cases p1 : s.1.2 = t.1.2
            · have e1 : (s.1.2 == t.1.2) = true := by simpa using p1
              clear HK2 p0 p1
              go_wp2_with fail
              go_ret
              exact hgo.out _ hB2
            · have e1 : (s.1.2 == t.1.2) = false := by simpa using p1
              by_cases p2 : s.1.1 + s.2.1 = t.1.1 + t.2.1
              · have e2 : (s.1.1 + s.2.1 == t.1.1 + t.2.1) = true := by simpa using p2
                by_cases p3 : s.1.2 + s.2.2 = t.1.2 + t.2.2
                · have e3 : (s.1.2 + s.2.2 == t.1.2 + t.2.2) = true := by simpa using p3
                  clear HK2 p0 p1 p2 p3
                  go_wp2_with fail
                  go_ret
                  exact hgo.out _ hB2
                · have e3 : (s.1.2 + s.2.2 == t.1.2 + t.2.2) = false := by simpa using p3
                  have HK3 : Hid (∀ k' (hk : k' < i), k' < k + 1 → ApartS s (ss[k']'(by omega))) := HK2.out (by omega) (by omega)
                  clear HK2 p0 p1 p2 p3
                  go_wp2_with fail
                  go_roundw
                  case rel => exact ⟨k + 1, by omega, by go_num, hB2, bt, HK3⟩
                  case measure => simp [intOf]; omega
              · have e2 : (s.1.1 + s.2.1 == t.1.1 + t.2.1) = false := by simpa using p2
                have HK3 : Hid (∀ k' (hk : k' < i), k' < k + 1 → ApartS s (ss[k']'(by omega))) := HK2.out (by omega) (by omega)
                clear HK2 p0 p1 p2
                go_wp2_with fail
                go_roundw
                case rel => exact ⟨k + 1, by omega, by go_num, hB2, bt, HK3⟩
                case measure => simp [intOf]; omega
          · have e0 : (s.1.1 == t.1.1) = false := by simpa using p0
            by_cases p2 : s.1.1 + s.2.1 = t.1.1 + t.2.1
            · have e2 : (s.1.1 + s.2.1 == t.1.1 + t.2.1) = true := by simpa using p2
              by_cases p3 : s.1.2 + s.2.2 = t.1.2 + t.2.2
              · have e3 : (s.1.2 + s.2.2 == t.1.2 + t.2.2) = true := by simpa using p3
                clear HK2 p0 p2 p3
                go_wp2_with fail
                go_ret
                exact hgo.out _ hB2
              · have e3 : (s.1.2 + s.2.2 == t.1.2 + t.2.2) = false := by simpa using p3
                have HK3 : Hid (∀ k' (hk : k' < i), k' < k + 1 → ApartS s (ss[k']'(by omega))) := HK2.out (by omega) (by omega)
                clear HK2 p0 p2 p3
                go_wp2_with fail
                go_roundw
                case rel => exact ⟨k + 1, by omega, by go_num, hB2, bt, HK3⟩
                case measure => simp [intOf]; omega
            · have e2 : (s.1.1 + s.2.1 == t.1.1 + t.2.1) = false := by simpa using p2
              have HK3 : Hid (∀ k' (hk : k' < i), k' < k + 1 → ApartS s (ss[k']'(by omega))) := HK2.out (by omega) (by omega)
              clear HK2 p0 p2
              go_wp2_with fail
              go_roundw
              case rel => exact ⟨k + 1, by omega, by go_num, hB2, bt, HK3⟩
              case measure => simp [intOf]; omega
        · obtain rfl : k = i := by omega
          have HA2 : Hid (∀ j k' (hj : j < ss.length) (hk : k' < j), j < k + 1 → ApartS ss[j] (ss[k']'(by omega))) := fun j k' hj hk' h => by
            by_cases e : j = k
            · subst e; rw [← HS.out]; exact HK.out k' hk' hk'
            · exact HA.out j k' hj hk' (by omega)
          clear HA HK hblk
          go_wp2_with fail
          go_roundw
          case rel => exact ⟨k + 1, by omega, by go_num, hbel, HA2⟩
          case measure => simp [intOf]; omega
      -- ENOD
    · obtain rfl : i = ss.length := by omega
      obtain ⟨c0, c1, c2, c3⟩ := hc (ss.length - 1) (by omega)
      obtain ⟨c4, c5, c6, c7⟩ := hc 0 (by omega)
      have d2 := (hbel.cell (by exact hgs)).trans c2
      have d3 := (hbel.cell (by exact hgs)).trans c3
      have d4 := (hbel.cell (by exact hgs)).trans c4
      have d5 := (hbel.cell (by exact hgs)).trans c5
      obtain ⟨p, hp⟩ : ∃ p, p = ss[0]'(by omega) := ⟨_, rfl⟩
      obtain ⟨q, hq⟩ : ∃ q, q = ss[ss.length - 1]'(by omega) := ⟨_, rfl⟩
      rw [← hq] at d2 d3
      rw [← hp] at d4 d5
      have HPQ : Hid (p = ss[0]'(by omega) ∧ q = ss[ss.length - 1]'(by omega)) := ⟨hp, hq⟩
      clear hp hq c0 c1 c2 c3 c4 c5 c6 c7 hc
      have hw3 : ((ss.length : Int) - 1).toNat = ss.length - 1 := by omega
      have hw4 : (3 : Int) ≤ (ss.length : Int) := by omega
      have hw6 : (1 : Int) ≤ (ss.length : Int) := by omega
      have HY : Hid (∀ wq, Below wr.heap.size wr wq → q.2.1 = p.1.1 → q.2.2 = p.1.2 → SimpleRet ss w (.returned (.bool true)) wq) := fun wq hq e1 e2 =>
        ⟨true, rfl, fun _ => ⟨hlo', hhi', fun i k hi hk => HA.out i k hi hk hi, by omega, by rw [← HPQ.out.1, ← HPQ.out.2]; exact Prod.ext e1 e2⟩, hb1.trans ((hbel.trans (hq.mono hbel.size)).mono hb1.size)⟩
      have HN : Hid (∀ wq, Below wr.heap.size wr wq → SimpleRet ss w (.returned (.bool false)) wq) := fun wq hq => SimpleRet.no (hb1.trans ((hbel.trans (hq.mono hbel.size)).mono hb1.size))
      obtain ⟨⟨p1, p2⟩, p3⟩ := p
      obtain ⟨q1, q2, q3⟩ := q
      simp only at d2 d3 d4 d5 HY
      clear HPQ hb1 hbel HA hnear
      by_cases e1 : q2 = p1
      · subst e1
        by_cases e2 : q3 = p2
        · subst e2
          go_wp2_with fail
          go_quiet (fail)
          go_wp2_with fail
          go_ret
          exact HY.out _ (below_drewN (Below.refl _ _) _) (by trivial) (by trivial)
        · go_wp2_with fail
          go_quiet (fail)
          go_wp2_with fail
          go_ret
          exact HN.out _ (below_drewN (Below.refl _ _) _)
      · go_wp2_with fail
        go_quiet (fail)
        go_wp2_with fail
        go_ret
        exact HN.out _ (below_drewN (Below.refl _ _) _)
end Go.Proofs.Ytafanlbfbfbeoaa
