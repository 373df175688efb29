/- What the proofs over smartclip lean on, part 23 of 48. -/
import Derived.Test.YtafanlbfbfbeoaaM16
import Derived.Test.YtafanlbfbfbeoaaM17
import Derived.Test.YtafanlbfbfbeoaaM19
import Derived.Test.YtafanlbfbfbeoaaM20
import Derived.Test.YtafanlbfbfbeoaaM21

/- The sort. -/
namespace Go.Proofs.Ytafanlbfbfbeoaa
open Go.RowKit

section
variable {T : TypeId} {rv : Value} {gn gl gs : Nat} {rn rl rs : Value} {lt : Nat → Nat → Bool} {n : Nat} {own : Nat → Prop} {R : Array Nat → World → Prop} {RW : World → Prop}

/-- A sorted order of a part. -/
def GoodS (lt : Nat → Nat → Bool) (a b : Nat) (d f : Array Nat) : Prop := Sort.PermIn a b d f ∧ Sort.SortedIn lt a b f

theorem hintCode_dec {h : Sort.Hint} : (Sort.hintCode h = 2 ↔ h = .decreasing) ∧ (Sort.hintCode h = 1 ↔ h = .increasing) := by cases h <;> simp [Sort.hintCode]

set_option maxRecDepth 100000 in
set_option maxHeartbeats 8000000 in
theorem pdqsort_step (S : SortI T rv gn gl gs rn rl rs lt n own R RW) (hO : Sort.SWO lt) (hn : n ≤ 255) (N : Nat)
    (ih : ∀ (a b limit : Nat) (d : Array Nat) (w : World), R d w → b - a < N → a ≤ b → b ≤ n → limit < 1000 → Sort.Below lt a b d →
      Calls Try.prog 60 #[.iface T rv, .int .i64 a, .int .i64 b, .int .i64 limit] w fun e w' => e = .returned (.tuple #[]) ∧ ∃ d', GoodS lt a b d d' ∧ R d' w' ∧ KeepsB own w w')
    (a b limit : Nat) (d : Array Nat) (w : World) (hR : R d w) (hN : b - a < N + 1) (hab : a ≤ b) (hb : b ≤ n) (hlim : limit < 1000) (hB : Sort.Below lt a b d) :
    Calls Try.prog 60 #[.iface T rv, .int .i64 a, .int .i64 b, .int .i64 limit] w fun e w' => e = .returned (.tuple #[]) ∧ ∃ d', GoodS lt a b d d' ∧ R d' w' ∧ KeepsB own w w' := by
  have eL := S.el; have eS := S.es
  go_enter Try.func60, Try.ntmps60
  go_wp2
  go_loopg [1, 2, 3, 8, 9] (b - a) (fun kx s1 s2 s3 s8 s9 wr => ∃ (a' b' lim : Nat) (wb wp : Bool) (dk : Array Nat), s1 = .int .i64 a' ∧ s2 = .int .i64 b' ∧ s3 = .int .i64 lim ∧ s8 = .bool wb ∧ s9 = .bool wp ∧ a' ≤ b' ∧ b' ≤ n ∧ lim ≤ limit ∧ b' - a' ≤ kx ∧ b' - a' ≤ b - a ∧ Sort.Below lt a' b' dk ∧ R dk wr ∧ KeepsB own w wr ∧ Hid (∀ f, GoodS lt a' b' dk f → GoodS lt a b d f))
  case atStart => exact ⟨a, b, limit, true, true, d, rfl, rfl, rfl, rfl, rfl, hab, hb, Nat.le_refl _, Nat.le_refl _, Nat.le_refl _, hB, hR, KeepsB.refl _ _, fun f h => h⟩
  case round =>
    clear hR hB
    obtain ⟨a', b', lim, wb, wp, dk, rfl, rfl, rfl, rfl, rfl, hab', hb', hlim', hkx, hsub, hBk, hRk, hK, HG⟩ := hrel
    have hsk := S.size hRk
    by_cases h12 : b' - a' ≤ 12
    · have h12z : (b' : Int) - (a' : Int) ≤ 12 := by omega
      -- DONE
      have hc := insertionSort_any S a' b' dk _ hRk hab' hb' (by omega)
      have HF : Hid (GoodS lt a b d (Sort.insertionSort lt dk a' b')) := HG.out _ (Sort.insertionSort_holds hO dk a' b' hab' (by omega))
      clear HG
      go_wp2_with fail
      (with_reducible refine hc.mono ?_)
      rintro e w2 ⟨rfl, hR2, hk2⟩
      go_wp2_with fail
      refine bodyPost_ret (results_none rfl _ _ _) rfl ?_
      exact ⟨rfl, _, HF.out, hR2, hK.trans hk2⟩
      -- ENOD
    have h12z : ¬ ((b' : Int) - (a' : Int) ≤ 12) := by omega
    by_cases hl0 : lim = 0
    · subst hl0
      -- DONE
      have hc := heapSort_any S a' b' dk _ hRk hab' hb' (by omega)
      have HF : Hid (GoodS lt a b d (Sort.heapSort lt dk a' b')) := HG.out _ (Sort.heapSort_holds hO dk a' b' hab' (by omega))
      clear HG
      go_wp2_with fail
      (with_reducible refine hc.mono ?_)
      rintro e w2 ⟨rfl, hR2, hk2⟩
      go_wp2_with fail
      refine bodyPost_ret (results_none rfl _ _ _) rfl ?_
      exact ⟨rfl, _, HF.out, hR2, hK.trans hk2⟩
      -- ENOD
    have hl0z : ((lim : Int) == 0) = false := by simpa using hl0
    have hlt : a' < b' := by omega
    go_upto_if 35 with fail
    go_cut [3] (fun s3 wc => ∃ (lim' : Nat) (d1 : Array Nat), s3 = .int .i64 lim' ∧ lim' ≤ limit ∧ Sort.PermIn a' b' dk d1 ∧ R d1 wc ∧ KeepsB own w wc)
    case first =>
      -- DONE
      cases wb with
      | true =>
        go_wp2_with fail
        go_meet
        exact ⟨lim, dk, rfl, hlim', Sort.permIn_refl _ _ _, hRk, hK⟩
      | false =>
        have hc := breakPatterns_any S a' b' dk _ hRk hab' hb' hn
        go_wp2_with fail
        (with_reducible refine hc.mono ?_)
        rintro e w2 ⟨rfl, d1, hP1, hR2, hk2⟩
        go_wp2_with fail
        go_meet
        exact ⟨lim - 1, d1, by congr 1; omega, by omega, hP1, hR2, hK.trans hk2⟩
      -- ENOD
    case rest =>
      obtain ⟨lim', d1, rfl, hlim2, hP1, hR1, hK1⟩ := hcut
      clear hRk hK hl0z hlim' hl0
      have hs1 := S.size hR1
      have hB1 := hBk.perm (by omega) hP1
      have hpv := Sort.choosePivot_holds lt d1 a' b' hlt
      have hc := choosePivot_any S a' b' d1 _ hR1 hlt hb' (by omega)
      obtain ⟨pv, ht, hpe⟩ : ∃ pv ht, Sort.choosePivot lt d1 a' b' = (pv, ht) := ⟨_, _, rfl⟩
      rw [hpe] at hpv hc
      simp only at hpv hc
      clear hpe
      go_wp2_with fail
      (with_reducible refine hc.mono ?_)
      rintro e w2 ⟨rfl, hb2⟩
      have hR2 := S.below hR1 hb2
      have hK2 := hK1.trans (KeepsB.of hb2)
      clear hc hR1 hK1 hb2
      go_upto_if 50 with fail
      go_cut [11, 12] (fun s11 s12 wc => ∃ (pv' : Nat) (ht' : Sort.Hint) (d2 : Array Nat), s11 = .int .i64 pv' ∧ s12 = .int .i64 (Sort.hintCode ht') ∧ (a' ≤ pv' ∧ pv' < b') ∧ Sort.PermIn a' b' dk d2 ∧ R d2 wc ∧ KeepsB own w wc)
      case first =>
        -- DONE
        by_cases hd : ht = .decreasing
        · subst hd
          have hc := reverseRange_any S a' b' d1 _ hR2 hab' hb' (by omega)
          have hP2 := Sort.permIn_trans _ _ _ a' b' hP1 (Sort.reverseRange_holds d1 a' b' hab' (by omega))
          have ep : (b' : Int) - 1 - ((pv : Int) - (a' : Int)) = ((b' - 1 - (pv - a') : Nat) : Int) := by omega
          go_wp2_with fail
          (with_reducible refine hc.mono ?_)
          rintro e w3 ⟨rfl, hR3, hk3⟩
          go_wp2_with fail
          go_meet
          exact ⟨b' - 1 - (pv - a'), .increasing, _, by congr 1, rfl, by omega, hP2, hR3, hK2.trans hk3⟩
        · have hdz : (Sort.hintCode ht == 2) = false := by simp; intro h; exact hd (hintCode_dec.1.1 h)
          go_wp2_with fail
          go_meet
          exact ⟨pv, ht, d1, rfl, rfl, hpv, hP1, hR2, hK2⟩
        -- ENOD
      case rest =>
        clear hR2 hK2 hpv hP1 hs1 hB1
        obtain ⟨pv, ht, d2, rfl, rfl, hpv, hP2, hR2, hK2⟩ := hcut
        have hs2 := S.size hR2
        have hB2 := hBk.perm (by omega) hP2
        go_upto_region 15 with fail
        go_cut [68] (fun v wc => ∃ t : Bool, v = .bool t ∧ R d2 wc ∧ KeepsB own w wc)
        case first =>
          -- DONE
          cases wb with
          | false =>
            go_wp2_with fail
            go_meet
            exact ⟨false, rfl, hR2, hK2⟩
          | true =>
            cases wp with
            | false =>
              go_wp2_with fail
              go_meet
              exact ⟨false, rfl, hR2, hK2⟩
            | true =>
              by_cases hd : ht = .increasing
              · subst hd
                go_wp2_with fail
                go_meet
                exact ⟨true, rfl, hR2, hK2⟩
              · have hdz : (Sort.hintCode ht == 1) = false := by simp; intro h; exact hd (hintCode_dec.2.1 h)
                go_wp2_with fail
                go_meet
                exact ⟨false, rfl, hR2, hK2⟩
          -- ENOD
        case rest =>
        clear hR2 hK2
        obtain ⟨th, rfl, hR2, hK2⟩ := hcut
        have hs2 := S.size hR2
        go_upto_if 68 with fail
        go_cut [] (fun wc => ∃ d3 : Array Nat, Sort.PermIn a' b' dk d3 ∧ R d3 wc ∧ KeepsB own w wc)
        case first =>
          -- DONE
          cases th with
          | true =>
            have hc := partialInsertionSort_any S a' b' d2 _ hR2 hlt hb' (by omega)
            have hh := Sort.partialInsertionSort_holds hO d2 a' b' hlt (by omega) hB2
            have hP3 := Sort.permIn_trans _ _ _ a' b' hP2 hh.1
            obtain ⟨d3, r, hd3⟩ : ∃ d3 r, Sort.partialInsertionSort lt d2 a' b' = (d3, r) := ⟨_, _, rfl⟩
            rw [hd3] at hc hh hP3
            simp only at hc hh hP3
            clear hd3
            cases r with
            | true =>
              have HF : Hid (GoodS lt a b d d3) := HG.out _ ⟨hP3, hh.2 rfl⟩
              clear HG hh
              go_wp2_with fail
              (with_reducible refine hc.mono ?_)
              rintro e w3 ⟨rfl, hR3, hk3⟩
              go_wp2_with fail
              refine bodyPost_ret (results_none rfl _ _ _) rfl ?_
              exact ⟨rfl, _, HF.out, hR3, hK2.trans hk3⟩
            | false =>
              clear hh
              go_wp2_with fail
              (with_reducible refine hc.mono ?_)
              rintro e w3 ⟨rfl, hR3, hk3⟩
              go_wp2_with fail
              go_meet
              exact ⟨d3, hP3, hR3, hK2.trans hk3⟩
          | false =>
            go_wp2_with fail
            go_meet
            exact ⟨d2, hP2, hR2, hK2⟩
          -- ENOD
        case rest =>
          clear hR2 hK2 hP2 hs2 hB2
          obtain ⟨d3, hP3, hR3, hK3⟩ := hcut
          have hs3 := S.size hR3
          have hB3 := hBk.perm (by omega) hP3
          have HG3 : Hid (∀ f, GoodS lt a' b' d3 f → GoodS lt a b d f) := fun f hf => HG.out f ⟨Sort.permIn_trans _ _ _ a' b' hP3 hf.1, hf.2⟩
          clear HG hP3 hBk
          go_upto_region 17 with fail
          go_cut [82] (fun v wc => ∃ t : Bool, v = .bool t ∧ (t = true → 0 < a' ∧ lt d3[a' - 1]! d3[pv]! = false) ∧ R d3 wc ∧ KeepsB own w wc)
          case first =>
            -- DONE
            by_cases ha0 : a' = 0
            · subst ha0
              go_wp2_with fail
              go_meet
              exact ⟨false, rfl, by simp, hR3, hK3⟩
            · have haz : (0 : Int) < (a' : Int) := by omega
              have m0 := S.ml _ (S.rw hR3)
              have hl := S.less hR3 (a' - 1) pv (by omega) (by omega) (by omega)
              rw [show (((a' - 1 : Nat) : Int)) = (a' : Int) - 1 by omega] at hl
              cases hlv : lt d3[a' - 1]! d3[pv]! with
              | true =>
                rw [hlv] at hl
                go_wp2_with fail
                (with_reducible refine hl.mono ?_)
                rintro e w4 ⟨rfl, hb4⟩
                go_wp2_with fail
                go_meet
                exact ⟨false, rfl, by simp, S.below hR3 hb4, hK3.trans (KeepsB.of hb4)⟩
              | false =>
                rw [hlv] at hl
                have hlh : Hid (0 < a' ∧ lt d3[a' - 1]! d3[pv]! = false) := ⟨by omega, hlv⟩
                clear hlv
                go_wp2_with fail
                (with_reducible refine hl.mono ?_)
                rintro e w4 ⟨rfl, hb4⟩
                go_wp2_with fail
                go_meet
                exact ⟨true, rfl, fun _ => hlh.out, S.below hR3 hb4, hK3.trans (KeepsB.of hb4)⟩
            -- ENOD
          case rest =>
            clear hR3 hK3
            obtain ⟨t, rfl, ht3, hR4, hK4⟩ := hcut
            cases t with
            | true =>
              -- DONE
              obtain ⟨ha0, hl3⟩ := ht3 rfl
              have hc := partitionEqual_any S a' b' pv d3 _ hR4 hpv.1 hpv.2 hb' (by omega)
              obtain ⟨mid, d4, hx⟩ : ∃ mid d4, Sort.partitionEqual lt d3 a' b' pv = (mid, d4) := ⟨_, _, rfl⟩
              obtain ⟨r1, r2, r3, r4, r5⟩ := Sort.round_eq hO (Sort.partitionEqual_holds lt) ha0 hpv.1 hpv.2 (show b' ≤ d3.size by omega) hB3 hl3 hx
              rw [hx] at hc
              simp only at hc
              have HF : Hid (∀ f, GoodS lt mid b' d4 f → GoodS lt a b d f) := fun f hf => HG3.out f (r5 f hf.1 hf.2)
              clear hx r5 HG3 ht3 hl3
              go_wp2_with fail
              (with_reducible refine hc.mono ?_)
              rintro e w5 ⟨rfl, hR5, hk5⟩
              go_wp2_with fail
              go_roundg (b' - mid)
              case measure => omega
              case rel => exact ⟨mid, b', lim', wb, wp, d4, rfl, rfl, rfl, rfl, rfl, r2, hb', hlim2, Nat.le_refl _, by omega, r4, hR5, hK4.trans hk5, HF⟩
              -- ENOD
            | false =>
              clear ht3
              have hc := partition_any S a' b' pv d3 _ hR4 hpv.1 hpv.2 hb' (by omega)
              obtain ⟨mid, ap, d4, hx⟩ : ∃ mid ap d4, Sort.partition lt d3 a' b' pv = (mid, ap, d4) := ⟨_, _, _, rfl⟩
              obtain ⟨r1, r2, r3, r4, r5, r6, r7⟩ := Sort.round_part hO (Sort.partition_holds lt) hpv.1 hpv.2 (show b' ≤ d3.size by omega) hB3 hx
              rw [hx] at hc
              simp only at hc
              clear hx
              by_cases h4 : mid - a' < b' - mid
              · have h4z : (mid : Int) - (a' : Int) < (b' : Int) - (mid : Int) := by omega
                have hc2 := fun W (h : R d4 W) => ih a' mid lim' d4 W h (by omega) (by omega) (by omega) (by omega) r4
                have HF : Hid (∀ L, GoodS lt a' mid d4 L → Sort.Below lt (mid + 1) b' L ∧ ∀ f, GoodS lt (mid + 1) b' L f → GoodS lt a b d f) := fun L hL =>
                  ⟨(r6 L hL.1 hL.2).1, fun f hf => HG3.out f ((r6 L hL.1 hL.2).2 f hf.1 hf.2)⟩
                clear r6 r7 HG3 ih
                go_wp2_with fail
                (with_reducible refine hc.mono ?_)
                rintro e w5 ⟨rfl, hR5, hk5⟩
                have hK5 := hK4.trans hk5
                go_wp2_with fail
                (with_reducible refine (hc2 _ hR5).mono ?_)
                rintro e w6 ⟨rfl, L, hL, hR6, hk6⟩
                have hF := HF.out L hL
                have HF2 : Hid (∀ f, GoodS lt (mid + 1) b' L f → GoodS lt a b d f) := hF.2
                have hBL := hF.1
                clear HF hF
                go_wp2_with fail
                go_roundg (b' - (mid + 1))
                case measure => omega
                case rel => exact ⟨mid + 1, b', lim', _, ap, L, by simp, rfl, rfl, rfl, rfl, by omega, hb', hlim2, Nat.le_refl _, by omega, hBL, hR6, hK5.trans hk6, HF2⟩
              · have h4z : ¬ ((mid : Int) - (a' : Int) < (b' : Int) - (mid : Int)) := by omega
                have hc2 := fun W (h : R d4 W) => ih (mid + 1) b' lim' d4 W h (by omega) (by omega) (by omega) (by omega) r5
                rw [show ((mid + 1 : Nat) : Int) = (mid : Int) + 1 by omega] at hc2
                have HF : Hid (∀ L, GoodS lt (mid + 1) b' d4 L → Sort.Below lt a' mid L ∧ ∀ f, GoodS lt a' mid L f → GoodS lt a b d f) := fun L hL =>
                  ⟨(r7 L hL.1 hL.2).1, fun f hf => HG3.out f ((r7 L hL.1 hL.2).2 f hf.1 hf.2)⟩
                clear r6 r7 HG3 ih
                go_wp2_with fail
                (with_reducible refine hc.mono ?_)
                rintro e w5 ⟨rfl, hR5, hk5⟩
                have hK5 := hK4.trans hk5
                go_wp2_with fail
                (with_reducible refine (hc2 _ hR5).mono ?_)
                rintro e w6 ⟨rfl, L, hL, hR6, hk6⟩
                have hF := HF.out L hL
                have HF2 : Hid (∀ f, GoodS lt a' mid L f → GoodS lt a b d f) := hF.2
                have hBL := hF.1
                clear HF hF
                go_wp2_with fail
                go_roundg (mid - a')
                case measure => omega
                case rel => exact ⟨a', mid, lim', _, ap, L, rfl, rfl, rfl, rfl, rfl, by omega, by omega, hlim2, Nat.le_refl _, by omega, hBL, hR6, hK5.trans hk6, HF2⟩
theorem pdqsort_any (S : SortI T rv gn gl gs rn rl rs lt n own R RW) (hO : Sort.SWO lt) (hn : n ≤ 255) (N : Nat) : ∀ (a b limit : Nat) (d : Array Nat) (w : World), R d w → b - a < N → a ≤ b → b ≤ n → limit < 1000 → Sort.Below lt a b d →
    Calls Try.prog 60 #[.iface T rv, .int .i64 a, .int .i64 b, .int .i64 limit] w fun e w' => e = .returned (.tuple #[]) ∧ ∃ d', GoodS lt a b d d' ∧ R d' w' ∧ KeepsB own w w' := by
  induction N with
  | zero => intro a b limit d w _ h; exact absurd h (Nat.not_lt_zero _)
  | succ N ih => exact pdqsort_step S hO hn N ih
end
end Go.Proofs.Ytafanlbfbfbeoaa
