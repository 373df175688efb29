/- The steps of several lines. -/
import Derived.Test.YtlakfamodfgmcaaSt
import Derived.Test.YtlakfamodfgmcaaRa
import Derived.Test.YtlakfamodfgmcaaSp
namespace Go.Proofs.Ytlakfamodfgmcaa
open Go.RowKit

/-- The steps of several lines, one behind the other. -/
def allL (xs : List (Value × List (Int × Int))) : List ((Int × Int) × (Int × Int)) := xs.flatMap fun x => stepsL x.2

theorem allL_take (xs : List (Value × List (Int × Int))) (k : Nat) (h : k < xs.length) : allL (xs.take (k + 1)) = allL (xs.take k) ++ stepsL xs[k].2 := by
  unfold allL
  rw [List.take_succ_eq_append_getElem h, List.flatMap_append]; simp

theorem allL_le (xs : List (Value × List (Int × Int))) (k : Nat) : (allL (xs.take k)).length ≤ (allL xs).length := by
  have e : allL xs = allL (xs.take k) ++ allL (xs.drop k) := by
    unfold allL
    rw [← List.flatMap_append, List.take_append_drop]
  rw [e, List.length_append]; omega

theorem steps_one (ss : List ((Int × Int) × (Int × Int))) : ∀ u ∈ ss.flatMap stepE, u.oneCell' = true := by
  intro u hu
  obtain ⟨p, _, hp⟩ := List.mem_flatMap.1 hu
  simp [stepE] at hp
  rcases hp with rfl | rfl | rfl | rfl <;> rfl

set_option maxRecDepth 100000 in
set_option maxHeartbeats 2000000 in
theorem all_any (lx ly hx hy : Int) (h1 : -1000 ≤ lx ∧ hx ≤ 1000) (h2 : -1000 ≤ ly ∧ hy ≤ 1000) (v : Value) (xs : List (Value × List (Int × Int))) (B : Nat) (w : World)
    (hin : ∀ x ∈ xs, ∀ p ∈ x.2, hasB lx ly hx hy p.1 p.2 = true) (hoc : ∀ x ∈ xs, ∀ i (h : i + 1 < x.2.length), Octi x.2[i] x.2[i + 1]) (hl : ∀ x ∈ xs, x.2.length ≤ 2000) (hn : xs.length ≤ 2000) (hT : (allL xs).length ≤ 100000000) (h : RowsAt w B 34 38 ptE v xs) :
    Calls Try.prog 31 #[.agg #[.int .i64 lx, .int .i64 ly, .int .i64 hx, .int .i64 hy], v] w
      fun e w' => ∃ ao' cap', e = .returned (.tuple #[.slice ao' (allL xs).length cap', .bool true]) ∧ w'.ownsRow w.heap.size 96 4 (.slice ao' (allL xs).length cap') (allL xs).length ((allL xs).flatMap stepE) ∧ Below w.heap.size w w' := by
  obtain ⟨i0, hi, hz0, hz1, hz2⟩ := info_parts Try.info96
  obtain ⟨ao, cap, g, rfl, hg, hc⟩ := h.read
  clear h
  go_enter Try.func31, Try.ntmps31
  go_wp2_with fail
  go_loopw [6, 18] (fun v i wr => ∃ (k : Nat) (ao' : Option Addr) (cap' : Nat) (ss : List ((Int × Int) × (Int × Int))), k ≤ xs.length ∧ i = .int .i64 k ∧ v = .slice ao' ss.length cap' ∧ Hid (ss = allL (xs.take k)) ∧
      wr.ownsRow (w.heap.size + 1) 96 4 (.slice ao' ss.length cap') ss.length (ss.flatMap stepE) ∧
      Blk wr w.heap.size #[.int .i64 lx, .int .i64 ly, .int .i64 hx, .int .i64 hy] 27 ∧ Below w.heap.size w wr)
    (fun _ i _ => xs.length - (intOf i).toNat)
  case atStart =>
    have ho0 := own_new (w.alloc (.cells #[.int .i64 lx, .int .i64 ly, .int .i64 hx, .int .i64 hy] 27)) (w.heap.size + 1) (by simp) 96 4 0 [] rfl (by omega)
    rw [World.size_alloc] at ho0
    exact ⟨0, _, _, [], Nat.zero_le _, rfl, rfl, rfl, ho0, (Blk.new _ _ _).alloc _, ((Below.refl _ _).alloc (Nat.le_refl _) _).alloc (by simp) _⟩
  case round =>
    obtain ⟨k, ao', cap', ss, hk, rfl, rfl, HS, hown, hbox, hbel⟩ := hrel
    by_cases hlt : k < xs.length
    · obtain ⟨rfl, hgs, _⟩ := hg (by omega)
      obtain ⟨aq, cq, hv, c0, ho⟩ := hc k hlt
      have d0 : wr.cell? ⟨g, k, none⟩ = some (.slice aq xs[k].2.length cq) := (hbel.cell (by exact hgs)).trans c0
      have ho := own_below ho hbel (Nat.le_refl _)
      have hip := hin xs[k] (List.getElem_mem _)
      have hlp := hl xs[k] (List.getElem_mem _)
      have hop := hoc xs[k] (List.getElem_mem _)
      have hsl : ss.length ≤ 100000000 := by rw [HS.out]; exact Nat.le_trans (allL_le xs k) hT
      have HN : Hid (allL (xs.take (k + 1)) = ss ++ stepsL xs[k].2) := by show _ = _; rw [HS.out]; exact allL_take xs k hlt
      have hml : (stepsL xs[k].2).length ≤ 100000000 := by
        have h1 := allL_le xs (k + 1)
        rw [allL_take xs k hlt, List.length_append] at h1; omega
      obtain ⟨ps, hp⟩ : ∃ ps, ps = xs[k].2 := ⟨_, rfl⟩
      have hop2 : ∀ i (h : i + 1 < ps.length), Octi ps[i] ps[i + 1] := by rw [hp]; exact hop
      rw [← hp] at d0 ho hip hlp HN hml
      have hsp : ∀ p ∈ ps, (-100000 < p.1 ∧ p.1 < 100000) ∧ (-100000 < p.2 ∧ p.2 < 100000) := fun p hm => by
        have := hasB_iff.1 (hip p hm); omega
      have hnp : ∀ p ∈ ps, Near p := fun p hm => by
        have := hasB_iff.1 (hip p hm); unfold Near; omega
      clear hp hv c0 hc hg hl hin hop hoc HS
      go_wp2_with fail
      refine (spots_any aq cq ps _ _ hsp (by omega) ho).mono ?_
      rintro e w1 ⟨a1, c1, rfl, ho1, hb1⟩
      have hown1 := own_below hown hb1 (Nat.le_refl _)
      have hbox1 := hbox.below hb1 hbox.lt
      have hbel1 := hbel.trans (hb1.mono hbel.size)
      have ho1 := own_mono ho1 (Nat.zero_le _)
      clear hown hbox d0 ho hsp hb1 hbel
      go_wp2_with fail
      refine (steps_any a1 c1 ps _ _ (by omega) hnp hop2 ho1).mono ?_
      rintro e w2 ⟨a2, c2, rfl, hsome, ho2, hb2⟩
      obtain ⟨ad, rfl⟩ : ∃ ad, a2 = some ad := by cases a2 with | none => simp at hsome | some ad => exact ⟨ad, rfl⟩
      obtain ⟨gx, rfl⟩ : ∃ gx : Nat, ad = ⟨gx, 0, none⟩ := by
        rcases ho2.2 with ⟨hv, _⟩ | ⟨g', _, _, hv, _⟩
        · cases hv
        · injection hv with h1; injection h1 with h1; exact ⟨g', h1⟩
      have hown2 := own_below hown1 hb2 (Nat.le_refl _)
      have hbox2 := hbox1.below hb2 hbox1.lt
      have hbel2 := hbel1.trans (hb2.mono hbel1.size)
      have hsp2 := own_below ho1 hb2 (Nat.le_refl _)
      have ho2 := own_mono ho2 (Nat.zero_le _)
      have hs2 := hbel2.size
      have hbl := hbox2.lt
      clear hown1 hbox1 hbel1 ho1 hb2 hop2 hnp hsome
      obtain ⟨st, hst⟩ : ∃ st, st = stepsL ps := ⟨_, rfl⟩
      rw [← hst] at ho2 HN hml ⊢
      clear hst
      obtain ⟨g1, hg1, hc1⟩ := spots_read hsp2
      go_wp2_with fail
      go_loopw [40] (fun i wq => ∃ (j : Nat), j ≤ ps.length ∧ i = .int .i64 j ∧ Below w2.heap.size w2 wq) (fun i _ => ps.length - (intOf i).toNat)
      case atStart => exact ⟨0, Nat.zero_le _, rfl, Below.refl _ _⟩
      case round =>
        obtain ⟨j, hj, rfl, hbq⟩ := hrel
        have hsq := hbq.size
        by_cases hjl : j < ps.length
        · obtain ⟨rfl, hgs1, _⟩ := hg1 (by omega)
          obtain ⟨p0, p1⟩ := hc1 j hjl
          have p0 := (hbq.cell (by exact hgs1)).trans p0
          have p1 := (hbq.cell (by exact hgs1)).trans p1
          have hpj := hip _ (List.getElem_mem hjl)
          obtain ⟨p, hp⟩ : ∃ p, p = ps[j] := ⟨_, rfl⟩
          rw [← hp] at p0 p1 hpj
          clear hp hc1 hg1
          have e0 : wr.cell? ⟨w.heap.size, 0, none⟩ = some (.int .i64 lx) := (hbq.cell (by exact hbl)).trans (hbox2.cell 0)
          have e1 : wr.cell? ⟨w.heap.size, 1, none⟩ = some (.int .i64 ly) := (hbq.cell (by exact hbl)).trans (hbox2.cell 1)
          have e2 : wr.cell? ⟨w.heap.size, 2, none⟩ = some (.int .i64 hx) := (hbq.cell (by exact hbl)).trans (hbox2.cell 2)
          have e3 : wr.cell? ⟨w.heap.size, 3, none⟩ = some (.int .i64 hy) := (hbq.cell (by exact hbl)).trans (hbox2.cell 3)
          have hbl' : w.heap.size < wr.heap.size := by omega
          go_wp2_with fail
          refine (has_any lx ly hx hy p.1 p.2 _).mono ?_
          rintro e w3 ⟨rfl, hb3⟩
          rw [hpj]
          have hbq2 : Below w2.heap.size w2 w3 := (hbq.alloc hsq _).trans (hb3.mono (by simp; omega))
          clear e0 e1 e2 e3 p0 p1
          go_wp2_with fail
          go_roundw
          case rel => exact ⟨j + 1, by omega, by go_num, hbq2⟩
          case measure => simp [intOf]; omega
        · obtain rfl : j = ps.length := by omega
          have hownq := own_below hown2 hbq (Nat.le_refl _)
          have hboxq := hbox2.below hbq hbl
          have hbelq := hbel2.trans (hbq.mono hs2)
          have hoq := own_below ho2 hbq (Nat.le_refl _)
          clear hown2 hbox2 hbel2 ho2 hg1 hc1 hsp2
          go_wp2_with (at_builtin; refine wpList_append_own_at _ rfl (.tmp 49) (.tmp 50) 58 rfl (w.heap.size + 1) 96 i0 _ 4 32 Try.underlying58 hi hz0 hz1 hz2 rfl (by decide) _ ss.length _ rfl hownq ⟨gx, 0, none⟩ st.length _ (st.flatMap stepE) rfl hoq.1 (fun j u hj => hoq.cells rfl j u hj) (steps_one st) (by unfold maxLen; omega) (by omega) (by omega) ?_)
          intro v5 w5 hown5 hgr5 _ _
          have hbel5 : Below w.heap.size w w5 := hbelq.grown hgr5 hbelq.size fun k hk => by have := (hownq.lt k hk).1; omega
          have hbox5 := hboxq.grown hgr5 fun e => by have := (hownq.lt _ e.symm).1; omega
          obtain ⟨ao5, cap5, rfl⟩ := own_form hown5
          have hown5' : w5.ownsRow (w.heap.size + 1) 96 4 (.slice ao5 (ss.length + st.length) cap5) (ss.length + st.length) ((ss ++ st).flatMap stepE) := by rw [List.flatMap_append]; exact hown5
          clear hown5 hgr5 hownq hboxq hoq hbelq
          go_wp2_with fail
          go_roundw
          case rel => exact ⟨k + 1, _, _, ss ++ st, by omega, by go_num, by rw [List.length_append], HN.out.symm, by rw [List.length_append]; exact hown5', hbox5, hbel5⟩
          case measure => simp [intOf]; omega
    · obtain rfl : k = xs.length := by omega
      have HW : Hid (ss = allL xs) := by have h := HS.out; rwa [List.take_length] at h
      go_wp2_with fail
      rw [← HW.out]
      go_ret2
      exact ⟨_, _, rfl, own_mono hown (Nat.le_succ _), hbel⟩
end Go.Proofs.Ytlakfamodfgmcaa
