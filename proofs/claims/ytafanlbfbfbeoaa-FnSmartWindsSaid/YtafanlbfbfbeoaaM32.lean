/- What the proofs over smartclip lean on, part 33 of 48. -/
import Derived.Test.YtafanlbfbfbeoaaM03
import Derived.Test.YtafanlbfbfbeoaaM01
import Derived.StillTailTactics
import Derived.Deep.QuietTactic
import Derived.BigQuiet
import Derived.Deep.LoopGhost
import Derived.Deep.DeepCutAuto
import Derived.BigRegion

/- The steps of points. -/
namespace Go.Proofs.Ytafanlbfbfbeoaa
open Go.RowKit

theorem Try.info63 : (Try.prog.info? 63).map (fun i => (i.zero, i.size, i.bytes)) = some (some (.agg #[.int .i64 0, .int .i64 0, .int .i64 0, .int .i64 0]), 4, 32) := by kernel_rfl

/-- The steps from one point to another. -/
def segS (P Q : Int × Int) : List ((Int × Int) × (Int × Int)) := (List.range (lenK P Q).toNat).map fun k : Nat => (ptK P (dirK P Q) (k : Int), ptK P (dirK P Q) ((k : Int) + 1))

/-- The steps of points, one behind the other. -/
def stepsR : Int × Int → List (Int × Int) → List ((Int × Int) × (Int × Int))
  | _, [] => []
  | P, Q :: l => segS P Q ++ stepsR Q l

def stepsL : List (Int × Int) → List ((Int × Int) × (Int × Int))
  | [] => []
  | P :: l => stepsR P l

theorem stepsL_snoc (l : List (Int × Int)) (P Q : Int × Int) : stepsL (l ++ [P, Q]) = stepsL (l ++ [P]) ++ segS P Q := by
  cases l with
  | nil => simp [stepsL, stepsR]
  | cons a l =>
    show stepsR a (l ++ [P, Q]) = stepsR a (l ++ [P]) ++ segS P Q
    induction l generalizing a with
    | nil => simp [stepsR]
    | cons b l ih => simp only [List.cons_append, stepsR]; rw [ih b, List.append_assoc]

theorem stepsL_take (ps : List (Int × Int)) (i : Nat) (h : i + 1 < ps.length) : stepsL (ps.take (i + 2)) = stepsL (ps.take (i + 1)) ++ segS (ps[i]'(by omega)) ps[i + 1] := by
  have e1 : ps.take (i + 1) = ps.take i ++ [ps[i]'(by omega)] := List.take_succ_eq_append_getElem (by omega)
  have e2 : ps.take (i + 2) = ps.take i ++ [ps[i]'(by omega), ps[i + 1]] := by
    rw [List.take_succ_eq_append_getElem h, e1, List.append_assoc]; rfl
  rw [e2, e1, stepsL_snoc]

theorem seg_len (P Q : Int × Int) : (segS P Q).length = (lenK P Q).toNat := by unfold segS; simp

set_option maxRecDepth 100000 in
set_option maxHeartbeats 400000 in
theorem sign_any (n : Int) (w : World) : Calls Try.prog 39 #[.int .i64 n] w fun e w' => e = .returned (.int .i64 (sgn n)) ∧ w' = w := by
  go_enter Try.func39, Try.ntmps39
  go_wp2
  all_goals
    go_ret
    refine ⟨ret_int ?_, rfl⟩
    unfold sgn
    omega

theorem lenK_bd {P Q : Int × Int} (hP : Near P) (hQ : Near Q) : lenK P Q ≤ 6000 := by
  obtain ⟨⟨a, b⟩, c, d⟩ := hP
  obtain ⟨⟨e, f⟩, g, h⟩ := hQ
  unfold lenK; omega

theorem steps_len : ∀ (l : List (Int × Int)) (P : Int × Int), Near P → (∀ Q ∈ l, Near Q) → (stepsR P l).length ≤ 6000 * l.length
  | [], _, _, _ => by simp [stepsR]
  | Q :: l, P, hP, hl => by
    have h1 := lenK_bd hP (hl Q (by simp))
    have h2 := steps_len l Q (hl Q (by simp)) fun R hR => hl R (by simp [hR])
    rw [stepsR, List.length_append, seg_len, List.length_cons]
    omega

theorem stepsL_len {ps : List (Int × Int)} (h : ∀ p ∈ ps, Near p) : (stepsL ps).length ≤ 6000 * ps.length := by
  cases ps with
  | nil => simp [stepsL]
  | cons P l =>
    have := steps_len l P (h P (by simp)) fun Q hQ => h Q (by simp [hQ])
    rw [stepsL, List.length_cons]; omega

/-- A point before the last one is not the last one. -/
theorem pt_ne {P Q : Int × Int} (_h : Octi P Q) {k : Int} (h0 : 0 ≤ k) (hk : k < lenK P Q) : (decide ((ptK P (dirK P Q) k).1 = Q.1) && decide ((ptK P (dirK P Q) k).2 = Q.2)) = false := by
  rw [Bool.and_eq_false_iff, decide_eq_false_iff_not, decide_eq_false_iff_not, ← Classical.not_and_iff_not_or_not]
  rintro ⟨e1, e2⟩
  have hd := dir_ok P Q
  have f1 : (dirK P Q).1 = sgn (Q.1 - P.1) := rfl
  have f2 : (dirK P Q).2 = sgn (Q.2 - P.2) := rfl
  unfold ptK at e1 e2
  simp only at e1 e2
  rcases hd.1 with e | e | e <;> rcases hd.2 with e' | e' | e' <;> rw [e] at e1 f1 <;> rw [e'] at e2 f2 <;> unfold sgn at f1 f2 <;> unfold lenK at hk <;> omega

theorem own_block' {w : World} {B : Nat} {e : TypeId} {v : Value} {g : Nat} {s n : Nat} {zs : List Value} (h : w.ownsRow B e s v n zs) (hg : v.ownBlock = some g) : ∃ cur : Array Value, w.heap[g]? = some (.cells cur e (0, 0)) := by
  rcases h.2 with ⟨hv, _⟩ | ⟨g', cap, cur, hv, _, hgg, _⟩
  · rw [hv] at hg; simp [Value.ownBlock] at hg
  · rw [hv] at hg; simp [Value.ownBlock] at hg; subst hg; exact ⟨cur, hgg⟩

/-- What is known while a line is taken apart. -/
structure StInv (w wr : World) (g3 g4 : Nat) (A Q : Int × Int) (ao : Option Addr) (cap : Nat) (ss : List ((Int × Int) × (Int × Int))) : Prop where
  a : Blk wr g3 #[.int .i64 A.1, .int .i64 A.2] 25
  b : Blk wr g4 #[.int .i64 Q.1, .int .i64 Q.2] 25
  own : wr.ownsRow w.heap.size 63 4 (.slice ao ss.length cap) ss.length (ss.flatMap stepE)
  bel : Below w.heap.size w wr

set_option maxRecDepth 100000 in
set_option maxHeartbeats 4000000 in
theorem steps_any (ao : Option Addr) (cap : Nat) (ps : List (Int × Int)) (B : Nat) (w : World) (hlen : ps.length ≤ 3000) (hn : ∀ p ∈ ps, Near p) (hoc : ∀ i (h : i + 1 < ps.length), Octi ps[i] ps[i + 1])
    (h : w.ownsRow B 25 2 (.slice ao ps.length cap) ps.length (ps.flatMap spotE)) :
    Calls Try.prog 25 #[.slice ao ps.length cap] w
      fun e w' => ∃ ao' cap', e = .returned (.tuple #[.slice ao' (stepsL ps).length cap', .bool true]) ∧ ao'.isSome = true ∧
        w'.ownsRow w.heap.size 63 4 (.slice ao' (stepsL ps).length cap') (stepsL ps).length ((stepsL ps).flatMap stepE) ∧ Below w.heap.size w w' := by
  obtain ⟨i0, hi, hz0, hz1, hz2⟩ := info_parts Try.info63
  obtain ⟨g, hg, hc⟩ := spots_read h
  clear h
  have hnk : ∀ k (hk : k < ps.length), Near ps[k] := fun k hk => hn _ (List.getElem_mem hk)
  have htl : ∀ k, (stepsL (ps.take k)).length ≤ 18000000 := fun k => by
    have h1 := stepsL_len (ps := ps.take k) fun p hp => hn p (List.mem_of_mem_take hp)
    rw [List.length_take] at h1
    omega
  clear hn
  go_enter Try.func25, Try.ntmps25
  go_wp2_with fail
  go_loopg [4, 5] ps.length (fun mm v vi wr => ∃ (i : Nat) (ao' : Option Addr) (cap' : Nat) (ss : List ((Int × Int) × (Int × Int))), mm + i = ps.length + 1 ∧ 1 ≤ i ∧ vi = .int .i64 i ∧ v = .slice ao' ss.length cap' ∧ ss = stepsL (ps.take i) ∧ ao'.isSome = true ∧
      wr.ownsRow w.heap.size 63 4 (.slice ao' ss.length cap') ss.length (ss.flatMap stepE) ∧ Below w.heap.size w wr)
  case atStart =>
    refine ⟨1, _, _, [], by omega, by omega, rfl, rfl, ?_, rfl, own_new w _ (Nat.le_refl _) 63 4 0 [] rfl (by omega), (Below.refl _ _).alloc (Nat.le_refl _) _⟩
    cases ps with
    | nil => rfl
    | cons P l => rfl
  case round =>
    obtain ⟨i, ao', cap', ss, hmi, hi1, rfl, rfl, hss, hso, hown, hbel⟩ := hrel
    have HSO : Hid (ao'.isSome = true) := hso
    clear hso
    have HSS : Hid (ss = stepsL (ps.take i)) := hss
    clear hss
    obtain ⟨mm, rfl⟩ : ∃ mm, mm = gk := ⟨_, rfl⟩
    by_cases hlt : i < ps.length
    · obtain ⟨k, rfl⟩ : ∃ k, i = k + 1 := ⟨i - 1, by omega⟩
      obtain ⟨rfl, hgs, _⟩ := hg (by omega)
      obtain ⟨c0, c1⟩ := hc k (by omega)
      obtain ⟨c2, c3⟩ := hc (k + 1) hlt
      have hPn := hnk k (by omega)
      have hQn := hnk (k + 1) hlt
      have hPQ := hoc k hlt
      have hsl := htl (k + 1)
      rw [← HSS.out] at hsl
      have d0 : wr.cell? ⟨g, k * 2, none⟩ = some (.int .i64 ps[k].1) := (hbel.cell (by exact hgs)).trans c0
      have d1 : wr.cell? ⟨g, k * 2 + 1, none⟩ = some (.int .i64 ps[k].2) := (hbel.cell (by exact hgs)).trans c1
      have d2 : wr.cell? ⟨g, (k + 1) * 2, none⟩ = some (.int .i64 ps[k + 1].1) := (hbel.cell (by exact hgs)).trans c2
      have d3 : wr.cell? ⟨g, (k + 1) * 2 + 1, none⟩ = some (.int .i64 ps[k + 1].2) := (hbel.cell (by exact hgs)).trans c3
      have hgw : g < wr.heap.size := Nat.lt_of_lt_of_le hgs hbel.size
      have HN : Hid (stepsL (ps.take (k + 1 + 1)) = ss ++ segS ps[k] ps[k + 1]) := by show _ = _; rw [HSS.out]; exact stepsL_take ps k hlt
      obtain ⟨P, hP⟩ : ∃ P, P = ps[k] := ⟨_, rfl⟩
      obtain ⟨Q, hQ⟩ : ∃ Q, Q = ps[k + 1] := ⟨_, rfl⟩
      rw [← hP] at d0 d1 hPn hPQ HN
      rw [← hQ] at d2 d3 hQn hPQ HN
      have hii : (k : Int) + 1 < (ps.length : Int) := by omega
      have hsz := hbel.size
      clear hP hQ HSS hc hnk hoc htl hg c0 c1 c2 c3
      go_upto_region 5 with fail
      go_cut [6, 7] (fun s3 s4 wc => ∃ g3 g4 : Nat, s3 = .pointer (some ⟨g3, 0, none⟩) ∧ s4 = .pointer (some ⟨g4, 0, none⟩) ∧ g3 ≠ g4 ∧ w.heap.size ≤ g3 ∧ Blk wc g3 #[.int .i64 P.1, .int .i64 P.2] 25 ∧ Blk wc g4 #[.int .i64 Q.1, .int .i64 Q.2] 25 ∧
          wc.ownsRow w.heap.size 63 4 (.slice ao' ss.length cap') ss.length (ss.flatMap stepE) ∧ Below w.heap.size w wc)
      case first =>
        have a0 : ∀ o, (wr.alloc o).cell? ⟨g, k * 2, none⟩ = some (.int .i64 P.1) := fun o => by rw [World.cell?_alloc_past _ _ _ hgw]; exact d0
        have a1 : ∀ o, (wr.alloc o).cell? ⟨g, k * 2 + 1, none⟩ = some (.int .i64 P.2) := fun o => by rw [World.cell?_alloc_past _ _ _ hgw]; exact d1
        have a2 : ∀ o, (wr.alloc o).cell? ⟨g, (k + 1) * 2, none⟩ = some (.int .i64 Q.1) := fun o => by rw [World.cell?_alloc_past _ _ _ hgw]; exact d2
        have a3 : ∀ o, (wr.alloc o).cell? ⟨g, (k + 1) * 2 + 1, none⟩ = some (.int .i64 Q.2) := fun o => by rw [World.cell?_alloc_past _ _ _ hgw]; exact d3
        go_region
        all_goals go_wp2_with fail
        all_goals go_meet
        · refine ⟨_, _, rfl, rfl, by omega, hsz, ((Blk.new wr #[.int .i64 P.1, .int .i64 P.2] 25).alloc _).drew, ?_, ((hown.alloc _).alloc _).drew, ((hbel.alloc hsz _).alloc (by simp; omega) _).drew⟩
          have hh := Blk.new (wr.alloc (.cells #[.int .i64 P.1, .int .i64 P.2] 25)) #[.int .i64 Q.1, .int .i64 Q.2] 25
          simp only [World.size_alloc] at hh
          exact hh.drew
        · refine ⟨_, _, rfl, rfl, by omega, by omega, ?_, ((Blk.new wr #[.int .i64 Q.1, .int .i64 Q.2] 25).alloc _).drew, ((hown.alloc _).alloc _).drew, ((hbel.alloc hsz _).alloc (by simp; omega) _).drew⟩
          have hh := Blk.new (wr.alloc (.cells #[.int .i64 Q.1, .int .i64 Q.2] 25)) #[.int .i64 P.1, .int .i64 P.2] 25
          simp only [World.size_alloc] at hh
          exact hh.drew
      case rest =>
        clear d0 d1 d2 d3 hown hbel hsz hgw
        obtain ⟨g3, g4, rfl, rfl, hg34, hg3, ba, bb, hown, hbel⟩ := hcut
        have inv : StInv w wc g3 g4 P Q ao' cap' ss := ⟨ba, bb, hown, hbel⟩
        have hlk := lenK_bd hPn hQn
        have hN0 := len_nonneg P Q
        have hend := pt_len hPQ
        have hdd := dir_ok P Q
        have hnear : ∀ j : Int, 0 ≤ j → j ≤ lenK P Q → Near (ptK P (dirK P Q) j) := fun j h0 h1 => near_mid hdd hPn (by rw [hend]; exact hQn) h0 h1
        obtain ⟨⟨n1, n2⟩, n3, n4⟩ := hPn
        obtain ⟨⟨n5, n6⟩, n7, n8⟩ := hQn
        clear ba bb hown hbel
        obtain ⟨dx, hdx⟩ : ∃ dx, dx = Q.1 - P.1 := ⟨_, rfl⟩
        obtain ⟨dy, hdy⟩ : ∃ dy, dy = Q.2 - P.2 := ⟨_, rfl⟩
        have HD : Hid (dx = Q.1 - P.1 ∧ dy = Q.2 - P.2) := ⟨hdx, hdy⟩
        have hdb : (-6000 ≤ dx ∧ dx ≤ 6000) ∧ (-6000 ≤ dy ∧ dy ≤ 6000) := by omega
        clear hdx hdy
        go_upto_region 6 with fail
        go_cut [8, 9] (fun s8 s9 wd => s8 = .int .i64 dx ∧ s9 = .int .i64 dy ∧ StInv w wd g3 g4 P Q ao' cap' ss)
        case first =>
          have x0 : wc.cell? ⟨g3, 0, none⟩ = some (.int .i64 P.1) := inv.a.cell 0
          have x1 : wc.cell? ⟨g3, 1, none⟩ = some (.int .i64 P.2) := inv.a.cell 1
          have y0 : wc.cell? ⟨g4, 0, none⟩ = some (.int .i64 Q.1) := inv.b.cell 0
          have y1 : wc.cell? ⟨g4, 1, none⟩ = some (.int .i64 Q.2) := inv.b.cell 1
          go_wp2_with fail
          go_quiet (fail)
          go_wp2
          go_meet
          exact ⟨by rw [HD.out.1], by rw [HD.out.2], inv.a, inv.b, inv.own, below_drewN inv.bel _⟩
        case rest =>
          clear inv
          obtain ⟨rfl, rfl, inv⟩ := hcut
          go_upto_region 7 with fail
          go_cut [53] (fun v wd => v = .bool false ∧ StInv w wd g3 g4 P Q ao' cap' ss)
          case first =>
            have hoct : dx = 0 ∨ dy = 0 ∨ dx = dy ∨ dx = -dy := by
              have h := hPQ
              unfold Octi at h
              have hD := HD.out
              omega
            by_cases e1 : dx = 0
            · have f1 : (dx != 0) = false := by simp [e1]
              clear e1 hoct
              go_wp2_with fail
              go_meet
              exact ⟨rfl, inv⟩
            have f1 : (dx != 0) = true := by simp [e1]
            by_cases e2 : dy = 0
            · have f2 : (dy != 0) = false := by simp [e2]
              clear e1 e2 hoct
              go_wp2_with fail
              go_meet
              exact ⟨rfl, inv⟩
            have f2 : (dy != 0) = true := by simp [e2]
            by_cases e3 : dx = dy
            · have f3 : (dx != dy) = false := by simp [e3]
              clear e1 e2 e3 hoct
              go_wp2_with fail
              go_meet
              exact ⟨rfl, inv⟩
            have f3 : (dx != dy) = true := by simp [e3]
            have f4 : (dx != -dy) = false := by simp; omega
            clear e1 e2 e3 hoct
            go_wp2_with fail
            go_meet
            exact ⟨rfl, inv⟩
          case rest =>
            clear inv
            obtain ⟨rfl, inv⟩ := hcut
            have hsn : (segS P Q).length = (lenK P Q).toNat := seg_len P Q
            have hne : ∀ j : Int, 0 ≤ j → j < lenK P Q → (decide ((ptK P (dirK P Q) j).1 = Q.1) && decide ((ptK P (dirK P Q) j).2 = Q.2)) = false := fun j h0 h1 => pt_ne hPQ h0 h1
            have hgetS : ∀ j (hj : j < (lenK P Q).toNat), (segS P Q).take (j + 1) = (segS P Q).take j ++ [(ptK P (dirK P Q) (j : Int), ptK P (dirK P Q) ((j : Int) + 1))] := fun j hj => by
              rw [List.take_succ_eq_append_getElem (by rw [hsn]; exact hj)]
              simp [segS]
            have hdir : dirK P Q = (sgn dx, sgn dy) := by rw [HD.out.1, HD.out.2]; rfl
            have hnx : ∀ j : Int, ptK P (dirK P Q) (j + 1) = ((ptK P (dirK P Q) j).1 + sgn dx, (ptK P (dirK P Q) j).2 + sgn dy) := fun j => by
              rw [hdir]; unfold ptK; simp only [Int.add_mul, Int.one_mul, Int.add_assoc]
            have hp0 : ptK P (dirK P Q) 0 = P := pt_zero P _
            obtain ⟨N, hN⟩ : ∃ N, N = lenK P Q := ⟨_, rfl⟩
            obtain ⟨d, hd⟩ : ∃ d, d = dirK P Q := ⟨_, rfl⟩
            obtain ⟨us0, hus⟩ : ∃ us0, us0 = segS P Q := ⟨_, rfl⟩
            rw [← hN] at hlk hN0 hend hnear hsn hne hgetS
            rw [← hd] at hend hnear hne hgetS hnx hp0
            rw [← hus] at hsn hgetS HN
            have HF : Hid ((∀ j : Nat, j < N.toNat → us0.take (j + 1) = us0.take j ++ [(ptK P d (j : Int), ptK P d ((j : Int) + 1))]) ∧ (∀ j : Int, ptK P d (j + 1) = ((ptK P d j).1 + sgn dx, (ptK P d j).2 + sgn dy)) ∧ ptK P d 0 = P ∧ ptK P d N = Q ∧ us0.length = N.toNat) := ⟨hgetS, hnx, hp0, hend, hsn⟩
            clear hN hd hus hgetS hnx hp0 hend hsn hdir hdd hPQ HD
            go_wp2_with fail
            go_loopg [4] N.toNat (fun m v wq => ∃ (j : Nat) (ao2 : Option Addr) (cap2 : Nat) (us : List ((Int × Int) × (Int × Int))), m + j = N.toNat ∧ v = .slice ao2 us.length cap2 ∧ us = ss ++ us0.take j ∧ ao2.isSome = true ∧ StInv w wq g3 g4 (ptK P d j) Q ao2 cap2 us)
            case atStart => exact ⟨0, ao', cap', ss, by omega, rfl, by simp, HSO.out, by rw [show ((0 : Nat) : Int) = 0 from rfl, HF.out.2.2.1]; exact inv⟩
            case round =>
              clear inv
              obtain ⟨j, ao2, cap2, us, hmj, rfl, hus, hso2, inv⟩ := hrel
              have HSO2 : Hid (ao2.isSome = true) := hso2
              clear hso2
              obtain ⟨m, hm⟩ : ∃ m, m = gk - 1 := ⟨_, rfl⟩
              have HM : Hid (m = gk - 1) := hm
              clear hm
              have HU : Hid (us = ss ++ us0.take j) := hus
              have husl : us.length ≤ 20000000 := by
                rw [hus, List.length_append, List.length_take]; omega
              clear hus
              by_cases hj : j < N.toNat
              · have hA := hnear j (by omega) (by omega)
                have hcmp := hne j (by omega) (by omega)
                have hsg : (-1 ≤ sgn dx ∧ sgn dx ≤ 1) ∧ (-1 ≤ sgn dy ∧ sgn dy ≤ 1) := by unfold sgn; omega
                have hnx := HF.out.2.1 j
                obtain ⟨A, hAe⟩ : ∃ A, A = ptK P d j := ⟨_, rfl⟩
                rw [← hAe] at hA hcmp inv hnx
                have HA : Hid (A = ptK P d j ∧ ptK P d ((j : Int) + 1) = (A.1 + sgn dx, A.2 + sgn dy)) := ⟨hAe, hnx⟩
                clear hAe hnx
                obtain ⟨⟨m1, m2⟩, m3, m4⟩ := hA
                have hcm2 : Hid (¬ (A.1 = Q.1 ∧ A.2 = Q.2)) := fun h => by rw [h.1, h.2] at hcmp; simp at hcmp
                clear hcmp
                go_upto_region 9 with fail
                go_cut [56] (fun v wd => v = .bool true ∧ StInv w wd g3 g4 A Q ao2 cap2 us)
                case first =>
                  have x0 : wr.cell? ⟨g3, 0, none⟩ = some (.int .i64 A.1) := inv.a.cell 0
                  have x1 : wr.cell? ⟨g3, 1, none⟩ = some (.int .i64 A.2) := inv.a.cell 1
                  have y0 : wr.cell? ⟨g4, 0, none⟩ = some (.int .i64 Q.1) := inv.b.cell 0
                  have y1 : wr.cell? ⟨g4, 1, none⟩ = some (.int .i64 Q.2) := inv.b.cell 1
                  by_cases q1 : A.1 = Q.1
                  · have q2 : ¬ A.2 = Q.2 := fun h => hcm2.out ⟨q1, h⟩
                    go_wp2_with fail
                    go_meet
                    exact ⟨rfl, inv⟩
                  · go_wp2_with fail
                    go_meet
                    exact ⟨rfl, inv⟩
                case rest =>
                clear inv hcm2
                obtain ⟨rfl, inv⟩ := hcut
                obtain ⟨wr, rfl⟩ : ∃ wr, wr = wc := ⟨_, rfl⟩
                have x0 : wr.cell? ⟨g3, 0, none⟩ = some (.int .i64 A.1) := inv.a.cell 0
                have x1 : wr.cell? ⟨g3, 1, none⟩ = some (.int .i64 A.2) := inv.a.cell 1
                have y0 : wr.cell? ⟨g4, 0, none⟩ = some (.int .i64 Q.1) := inv.b.cell 0
                have y1 : wr.cell? ⟨g4, 1, none⟩ = some (.int .i64 Q.2) := inv.b.cell 1
                obtain ⟨sx, hsx0⟩ : ∃ sx, sx = sgn dx := ⟨_, rfl⟩
                obtain ⟨sy, hsy0⟩ : ∃ sy, sy = sgn dy := ⟨_, rfl⟩
                have HSG : Hid (sx = sgn dx ∧ sy = sgn dy) := ⟨hsx0, hsy0⟩
                rw [← hsx0, ← hsy0] at HA
                rw [← hsx0, ← hsy0] at hsg
                clear hsx0 hsy0
                go_upto_region 10 with fail
                go_cut [10] (fun v wd => ∃ gn : Nat, v = .pointer (some ⟨gn, 0, none⟩) ∧ gn ≠ g3 ∧ Blk wd gn #[.int .i64 (A.1 + sx), .int .i64 (A.2 + sy)] 25 ∧ StInv w wd g3 g4 A Q ao2 cap2 us)
                case first =>
                  have hg3w : g3 < wr.heap.size := inv.a.lt
                  have hszr := inv.bel.size
                  have a0 : ∀ o, (wr.alloc o).cell? ⟨g3, 0, none⟩ = some (.int .i64 A.1) := fun o => (inv.a.alloc o).cell 0
                  have a1 : ∀ o, (wr.alloc o).cell? ⟨g3, 1, none⟩ = some (.int .i64 A.2) := fun o => (inv.a.alloc o).cell 1
                  have hw1 : IntKind.i64.wrap (A.1 + sgn dx) = A.1 + sgn dx := by rw [← HSG.out.1]; rw [IntKind.wrap_i64]; omega
                  have hw2 : IntKind.i64.wrap (A.2 + sgn dy) = A.2 + sgn dy := by rw [← HSG.out.2]; rw [IntKind.wrap_i64]; omega
                  have hsgd : (-1 ≤ sgn dx ∧ sgn dx ≤ 1) ∧ (-1 ≤ sgn dy ∧ sgn dy ≤ 1) := by rw [← HSG.out.1, ← HSG.out.2]; exact hsg
                  go_region_held3 (fun w' => w'.cell? ⟨g3, 0, none⟩ = some (.int .i64 A.1) ∧ w'.cell? ⟨g3, 1, none⟩ = some (.int .i64 A.2))
                    ((first | exact ⟨x0, x1⟩ | exact ⟨a0 _, a1 _⟩))
                    (first
                      | (go_at_call 39; refine (sign_any _ _).mono ?_; rintro e wA ⟨rfl, rfl⟩))
                  all_goals go_wp2_with fail
                  all_goals go_meet
                  all_goals
                    rw [HSG.out.1, HSG.out.2]
                    exact ⟨wr.heap.size, rfl, by omega, by first | exact (Blk.new wr _ _).drew | exact Blk.new wr.drew _ _, by first | exact ⟨(inv.a.alloc _).drew, (inv.b.alloc _).drew, (inv.own.alloc _).drew, (inv.bel.alloc hszr _).drew⟩ | exact ⟨inv.a.drew.alloc _, inv.b.drew.alloc _, inv.own.drew.alloc _, inv.bel.drew.alloc hszr _⟩⟩
                case rest =>
                clear inv x0 x1 y0 y1
                obtain ⟨gn, rfl, hgn3, bn, inv2⟩ := hcut
                obtain ⟨w2, rfl⟩ : ∃ w2, w2 = wc := ⟨_, rfl⟩
                have x0 : w2.cell? ⟨g3, 0, none⟩ = some (.int .i64 A.1) := inv2.a.cell 0
                have x1 : w2.cell? ⟨g3, 1, none⟩ = some (.int .i64 A.2) := inv2.a.cell 1
                have z0 : w2.cell? ⟨gn, 0, none⟩ = some (.int .i64 (A.1 + sx)) := bn.cell 0
                have z1 : w2.cell? ⟨gn, 1, none⟩ = some (.int .i64 (A.2 + sy)) := bn.cell 1
                have hg3l : g3 < w2.heap.size := inv2.a.lt
                have hsz2 := inv2.bel.size
                have hty : ∀ (W : World) (b : Nat) (cs : Array Value) (v : Value) (n : Nat) (zs : List Value), Blk W b cs 25 → W.ownsRow w.heap.size 63 4 v n zs → v.ownBlock ≠ some b := fun W b cs v n zs hb ho e => by
                  obtain ⟨_, hc⟩ := own_block' ho e
                  unfold Blk at hb
                  rw [hb] at hc
                  simp at hc
                go_wp2_with (at_builtin; refine wpList_push rfl _ _ 59 rfl 63 i0 _ 4 32 Try.underlying59 hi hz0 hz1 hz2 rfl (by decide) (by decide) w _ w.heap.size _ us.length _ rfl inv2.own w.heap.size inv2.bel (Nat.le_refl _) (by omega) (by omega) [_, _, _, _] _ _ (by simp) 1 rfl rfl (by simp [Value.oneCell']) ?_)
                intro g5 cap5 w5 hown5 hbel5 hsz5 hgr5 _ _
                have ba5 := (inv2.a.alloc (.cells #[.int .i64 A.1, .int .i64 A.2, .int .i64 (A.1 + sx), .int .i64 (A.2 + sy)] 63)).grown hgr5 fun e => hty _ _ _ _ _ _ inv2.a inv2.own e.symm
                have bb5 := (inv2.b.alloc (.cells #[.int .i64 A.1, .int .i64 A.2, .int .i64 (A.1 + sx), .int .i64 (A.2 + sy)] 63)).grown hgr5 fun e => hty _ _ _ _ _ _ inv2.b inv2.own e.symm
                have bn5 := (bn.alloc (.cells #[.int .i64 A.1, .int .i64 A.2, .int .i64 (A.1 + sx), .int .i64 (A.2 + sy)] 63)).grown hgr5 fun e => hty _ _ _ _ _ _ bn inv2.own e.symm
                have hown5' : w5.ownsRow w.heap.size 63 4 (.slice (some ⟨g5, 0, none⟩) (us.length + 1) cap5) (us.length + 1) ((us ++ [(A, (A.1 + sx, A.2 + sy))]).flatMap stepE) := by rw [List.flatMap_append]; simpa [stepE] using hown5
                have hne5 := hty _ _ _ _ _ _ ba5 hown5'
                clear hown5 hgr5 inv2 x0 x1 z0 z1 bn hg3l hsz2 hty hsz5
                have n0 : w5.cell? ⟨gn, 0, none⟩ = some (.int .i64 (A.1 + sx)) := bn5.cell 0
                have n1 : w5.cell? ⟨gn, 1, none⟩ = some (.int .i64 (A.2 + sy)) := bn5.cell 1
                have f0 : w5.frozen? ⟨g3, 0, none⟩ = false := ba5.frozen 0
                have f1 : w5.frozen? ⟨g3, 1, none⟩ = false := ba5.frozen 1
                have r0 : w5.cell? ⟨g3, 0, none⟩ = some (.int .i64 A.1) := ba5.cell 0
                have r1 : w5.cell? ⟨g3, 1, none⟩ = some (.int .i64 A.2) := ba5.cell 1
                have inv6 : StInv w ((w5.setCell ⟨g3, 0, none⟩ (.int .i64 (A.1 + sx))).setCell ⟨g3, 1, none⟩ (.int .i64 (A.2 + sy))) g3 g4 (A.1 + sx, A.2 + sy) Q (some ⟨g5, 0, none⟩) cap5 (us ++ [(A, (A.1 + sx, A.2 + sy))]) :=
                  ⟨(ba5.set 0 _).set 1 _, (bb5.setOther ⟨g3, 0, none⟩ (by exact hg34.symm) _).setOther ⟨g3, 1, none⟩ (by exact hg34.symm) _, by rw [List.length_append]; exact ownsRow_setCell_other (ownsRow_setCell_other hown5' hne5 _) hne5 _, (hbel5.setCell hg3 _).setCell hg3 _⟩
                have HU2 : Hid (us ++ [(A, (A.1 + sx, A.2 + sy))] = ss ++ us0.take (j + 1)) := by
                  show _ = _
                  rw [HU.out, HF.out.1 j hj, List.append_assoc, ← HA.out.1, HA.out.2]
                clear ba5 bb5 bn5 hown5' hne5 hbel5
                go_wp2_with fail
                go_roundg m
                case rel => exact ⟨j + 1, _, cap5, us ++ [(A, (A.1 + sx, A.2 + sy))], (by have := HM.out; omega), by rw [List.length_append]; rfl, HU2.out, rfl, by rw [Int.natCast_add, show ((1 : Nat) : Int) = 1 from rfl, HA.out.2]; exact inv6⟩
                case measure => have := HM.out; omega
              · obtain rfl : j = N.toNat := by omega
                have hjN : ((N.toNat : Nat) : Int) = N := by omega
                rw [hjN, HF.out.2.2.2.1] at inv
                have HW : Hid (us = stepsL (ps.take (k + 1 + 1))) := by
                  show _ = _
                  rw [HN.out, HU.out, ← HF.out.2.2.2.2, List.take_length]
                have x0 : wr.cell? ⟨g3, 0, none⟩ = some (.int .i64 Q.1) := inv.a.cell 0
                have x1 : wr.cell? ⟨g3, 1, none⟩ = some (.int .i64 Q.2) := inv.a.cell 1
                have y0 : wr.cell? ⟨g4, 0, none⟩ = some (.int .i64 Q.1) := inv.b.cell 0
                have y1 : wr.cell? ⟨g4, 1, none⟩ = some (.int .i64 Q.2) := inv.b.cell 1
                clear hjN
                go_wp2_with fail
                go_roundg (mm - 1)
                case rel => exact ⟨k + 1 + 1, ao2, cap2, us, by omega, by omega, by go_num, rfl, HW.out, HSO2.out, inv.own, inv.bel⟩
                case measure => omega
    · obtain ⟨j, rfl⟩ : ∃ j, i = j + 1 := ⟨i - 1, by omega⟩
      have HW : Hid (ss = stepsL ps) := by
        have h := HSS.out
        rwa [List.take_of_length_le (by omega)] at h
      go_wp2_with fail
      go_ret2
      rw [← HW.out]
      exact ⟨_, _, rfl, HSO.out, hown, hbel⟩
end Go.Proofs.Ytafanlbfbfbeoaa
