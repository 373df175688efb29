/- What the proofs over smartclip lean on, part 34 of 48. -/
import Derived.Test.YtafanlbfbfbeoaaM06
import Derived.Test.YtafanlbfbfbeoaaM32

/- The parts of a line hold just those of its steps that are left. -/
namespace Go.Proofs.Ytafanlbfbfbeoaa

theorem sgn_mul {m e : Int} (hm : 0 < m) (he : e = -1 ∨ e = 0 ∨ e = 1) : sgn (m * e) = e := by
  unfold sgn
  rcases he with rfl | rfl | rfl <;> omega

theorem pt_pt (P d : Int × Int) (s k : Int) : ptK (ptK P d s) d k = ptK P d (s + k) := by
  unfold ptK
  refine Prod.ext ?_ ?_ <;> simp only [Int.add_mul] <;> omega

theorem pt_octi {P d : Int × Int} (hd : Dir d) (s t : Int) : Octi (ptK P d s) (ptK P d t) := by
  unfold Octi ptK
  rcases hd.1 with e | e | e <;> rcases hd.2 with e' | e' | e' <;> rw [e, e'] <;> simp only <;> omega

/-- A part of a line between two points. -/
theorem seg_sub {P Q : Int × Int} {s t : Int} (h0 : 0 ≤ s) (hst : s ≤ t) (htN : t ≤ lenK P Q) :
    segS (ptK P (dirK P Q) s) (ptK P (dirK P Q) t) = (List.range (t - s).toNat).map fun k : Nat => (ptK P (dirK P Q) (s + k), ptK P (dirK P Q) (s + k + 1)) := by
  have hd := dir_ok P Q
  by_cases he : s = t
  · subst he
    have : lenK (ptK P (dirK P Q) s) (ptK P (dirK P Q) s) = 0 := by unfold lenK; omega
    unfold segS
    rw [this]
    simp
  · have hlt : s < t := by omega
    obtain ⟨d, hde⟩ : ∃ d, d = dirK P Q := ⟨_, rfl⟩
    have hnz : d.1 ≠ 0 ∨ d.2 ≠ 0 := by
      have e1 : d.1 = sgn (Q.1 - P.1) := by rw [hde]; rfl
      have e2 : d.2 = sgn (Q.2 - P.2) := by rw [hde]; rfl
      unfold sgn at e1 e2
      unfold lenK at htN
      omega
    rw [← hde] at hd ⊢
    have hdir : dirK (ptK P d s) (ptK P d t) = d := by
      have e1 : (ptK P d t).1 - (ptK P d s).1 = (t - s) * d.1 := by simp only [ptK, Int.sub_mul]; omega
      have e2 : (ptK P d t).2 - (ptK P d s).2 = (t - s) * d.2 := by simp only [ptK, Int.sub_mul]; omega
      unfold dirK
      rw [e1, e2, sgn_mul (by omega) hd.1, sgn_mul (by omega) hd.2]
    have hlen : lenK (ptK P d s) (ptK P d t) = t - s := by
      unfold lenK ptK
      rcases hd.1 with e | e | e <;> rcases hd.2 with e' | e' | e' <;> rw [e, e'] at hnz ⊢ <;> simp only <;> omega
    unfold segS
    rw [hlen, hdir]
    apply List.map_congr_left
    intro k _
    rw [pt_pt, pt_pt, Int.add_assoc]

/-- Of the steps between two points, those that are left. -/
theorem seg_filter {f : (Int × Int) × (Int × Int) → Bool} {P Q : Int × Int} {s t : Int} (h0 : 0 ≤ s) (hst : s ≤ t) (htN : t ≤ lenK P Q)
    (hf : ∀ k, 0 ≤ k → k < lenK P Q → f (ptK P (dirK P Q) k, ptK P (dirK P Q) (k + 1)) = decide (s ≤ k ∧ k < t)) :
    (segS P Q).filter f = segS (ptK P (dirK P Q) s) (ptK P (dirK P Q) t) := by
  rw [seg_sub h0 hst htN]
  unfold segS
  rw [List.filter_map]
  have e : (List.range (lenK P Q).toNat).filter (f ∘ fun k : Nat => (ptK P (dirK P Q) (k : Int), ptK P (dirK P Q) ((k : Int) + 1))) = (List.range (t - s).toNat).map (fun k => s.toNat + k) := by
    have e2 : (List.range (lenK P Q).toNat).filter (f ∘ fun k : Nat => (ptK P (dirK P Q) (k : Int), ptK P (dirK P Q) ((k : Int) + 1))) = (List.range (lenK P Q).toNat).filter fun k => decide (s.toNat ≤ k) && decide (k < t.toNat) := by
      apply List.filter_congr
      intro k hk
      rw [List.mem_range] at hk
      rw [Function.comp, hf k (by omega) (by omega), ← Bool.decide_and, decide_eq_decide]
      omega
    rw [e2]
    have e3 : (lenK P Q).toNat = s.toNat + ((t - s).toNat + ((lenK P Q) - t).toNat) := by omega
    rw [e3, List.range_add, List.filter_append, List.range_add, List.map_append, List.filter_append]
    have f1 : (List.range s.toNat).filter (fun k => decide (s.toNat ≤ k) && decide (k < t.toNat)) = [] := by
      rw [List.filter_eq_nil_iff]; intro k hk; rw [List.mem_range] at hk; simp; omega
    have f2 : ((List.range (t - s).toNat).map (s.toNat + ·)).filter (fun k => decide (s.toNat ≤ k) && decide (k < t.toNat)) = (List.range (t - s).toNat).map (s.toNat + ·) := by
      rw [List.filter_eq_self]; intro k hk; obtain ⟨j, hj, rfl⟩ := List.mem_map.1 hk; rw [List.mem_range] at hj; simp; omega
    have f3 : (((List.range ((lenK P Q) - t).toNat).map ((t - s).toNat + ·)).map (s.toNat + ·)).filter (fun k => decide (s.toNat ≤ k) && decide (k < t.toNat)) = [] := by
      rw [List.filter_eq_nil_iff]; intro k hk
      obtain ⟨j, hj, rfl⟩ := List.mem_map.1 hk
      obtain ⟨i, hi, rfl⟩ := List.mem_map.1 hj
      simp; omega
    rw [f1, f2, f3]
    simp
  rw [e, List.map_map]
  apply List.map_congr_left
  intro k _
  have : ((s.toNat + k : Nat) : Int) = s + k := by omega
  simp only [Function.comp, this]

def keepS (o : Bool) (lx ly hx hy : Int) (s : (Int × Int) × (Int × Int)) : Bool := keepB o lx ly hx hy s.1 s.2

theorem segP_spec {o : Bool} {lx ly hx hy : Int} (h1 : lx < hx) (h2 : ly < hy) {P Q : Int × Int} (hPQ : Octi P Q) :
    (segP o lx ly hx hy P Q = none → codeX o lx ly hx hy P.1 P.2 ≠ 0 ∧ codeX o lx ly hx hy Q.1 Q.2 ≠ 0 ∧ (segS P Q).filter (keepS o lx ly hx hy) = []) ∧
    ∀ A C, segP o lx ly hx hy P Q = some (A, C) → hasB lx ly hx hy A.1 A.2 = true ∧ hasB lx ly hx hy C.1 C.2 = true ∧ Octi A C ∧ Octi A Q ∧ (codeX o lx ly hx hy P.1 P.2 = 0 → A = P) ∧ (codeX o lx ly hx hy Q.1 Q.2 = 0 → C = Q) ∧
      (segS P Q).filter (keepS o lx ly hx hy) = segS A C := by
  have hend := pt_len hPQ
  have hp0 := pt_zero P (dirK P Q)
  have hd := dir_ok P Q
  have hm := seg_main (o := o) (P := P) (N := lenK P Q) h1 h2 hd ((lenK P Q).toNat + 3) o o 0 (lenK P Q) (inv_start (len_nonneg P Q)) (by cases o <;> simp <;> omega)
  rw [hp0, hend] at hm
  obtain ⟨m1, m2⟩ := hm
  have zP := codeX_zero o lx ly hx hy P.1 P.2
  have zQ := codeX_zero o lx ly hx hy Q.1 Q.2
  unfold segP
  constructor
  · intro h
    rw [Option.map_eq_none_iff] at h
    obtain ⟨q1, q2, q3⟩ := m1 h
    refine ⟨fun e => q1 (zP.1 e), fun e => q2 (zQ.1 e), ?_⟩
    rw [seg_filter (s := 0) (t := 0) (by omega) (by omega) (len_nonneg P Q) (fun k k0 kN => by unfold keepS; rw [q3 k k0 kN]; simp <;> omega), seg_sub (by omega) (by omega) (len_nonneg P Q)]
    simp
  · intro A C h
    obtain ⟨⟨s, t⟩, hst, e⟩ := Option.map_eq_some_iff.1 h
    cases e
    obtain ⟨⟨q1, q2, q3⟩, q4, q5, q6, q7, q8⟩ := m2 s t hst
    refine ⟨q4, q5, pt_octi hd s t, ?_, fun e => ?_, fun e => ?_, seg_filter q1 q2 q3 fun k k0 kN => by unfold keepS; exact q8 k k0 kN⟩
    · have := pt_octi (P := P) hd s (lenK P Q)
      rwa [hend] at this
    · have := q6 (zP.1 e); subst this; exact hp0
    · have := q7 (zQ.1 e); subst this; exact hend

/-- A part is sound. -/
def RowOk (lx ly hx hy : Int) (r : List (Int × Int)) : Prop := (∀ p ∈ r, hasB lx ly hx hy p.1 p.2 = true) ∧ OctiL (r.headD (0, 0)) r

theorem row_one {lx ly hx hy : Int} {A : Int × Int} (h : hasB lx ly hx hy A.1 A.2 = true) : RowOk lx ly hx hy [A] :=
  ⟨fun p hp => by rw [List.mem_singleton.1 hp]; exact h, .inl rfl, trivial⟩

theorem row_push {lx ly hx hy : Int} {l : List (Int × Int)} {c A : Int × Int} (hr : RowOk lx ly hx hy (l ++ [c])) (hA : hasB lx ly hx hy A.1 A.2 = true) (ho : Octi c A) : RowOk lx ly hx hy (l ++ [c] ++ [A]) := by
  constructor
  · intro p hp
    rcases List.mem_append.1 hp with h | h
    · exact hr.1 p h
    · rw [List.mem_singleton.1 h]; exact hA
  · have e : (l ++ [c] ++ [A]).headD (0, 0) = (l ++ [c]).headD (0, 0) := by cases l <;> rfl
    rw [e, octiL_append]
    refine ⟨hr.2, ?_, trivial⟩
    have : lastOr ((l ++ [c]).headD (0, 0)) (l ++ [c]) = c := by unfold lastOr; simp
    rw [this]; exact ho

/-- What is known between two lines. -/
def LState (o : Bool) (lx ly hx hy : Int) (P : Int × Int) (rows : List (List (Int × Int))) (line : Nat) (acc : List ((Int × Int) × (Int × Int))) : Prop :=
  (line = rows.length ∧ rows.flatMap stepsL = acc ∧ ∀ r ∈ rows, RowOk lx ly hx hy r) ∨
  ∃ rs l c, rows = rs ++ [l ++ [c]] ∧ line = rs.length ∧ Octi c P ∧ codeX o lx ly hx hy P.1 P.2 = 0 ∧ (∀ r ∈ rows, RowOk lx ly hx hy r) ∧ rows.flatMap stepsL ++ segS c P = acc

theorem push_new (rows : List (List (Int × Int))) (A : Int × Int) : pushL rows rows.length A = rows ++ [[A]] := by
  unfold pushL
  rw [if_pos (Nat.le_refl _), modify_set _ _ (by simp)]
  simp

theorem push_old (rs : List (List (Int × Int))) (r : List (Int × Int)) (A : Int × Int) : pushL (rs ++ [r]) rs.length A = rs ++ [r ++ [A]] := by
  unfold pushL
  rw [if_neg (by simp), modify_set _ _ (by simp)]
  simp

theorem steps_push (rs : List (List (Int × Int))) (l : List (Int × Int)) (c A : Int × Int) : (rs ++ [l ++ [c] ++ [A]]).flatMap stepsL = (rs ++ [l ++ [c]]).flatMap stepsL ++ segS c A := by
  have e : stepsL (l ++ [c] ++ [A]) = stepsL (l ++ [c]) ++ segS c A := by
    rw [List.append_assoc]; exact stepsL_snoc l c A
  simp only [List.flatMap_append, List.flatMap_cons, List.flatMap_nil, List.append_nil]
  rw [e, List.append_assoc]

/-- A point is pushed that begins what is left of the next line: it is the last of the part that is open now. -/
theorem state_push {o : Bool} {lx ly hx hy : Int} {P A : Int × Int} {rows : List (List (Int × Int))} {line : Nat} {acc : List ((Int × Int) × (Int × Int))} (h : LState o lx ly hx hy P rows line acc) (hA : hasB lx ly hx hy A.1 A.2 = true) (hP : codeX o lx ly hx hy P.1 P.2 = 0 → A = P) :
    ∃ rs l, pushL rows line A = rs ++ [l ++ [A]] ∧ line = rs.length ∧ (∀ r ∈ rs ++ [l ++ [A]], RowOk lx ly hx hy r) ∧ (rs ++ [l ++ [A]]).flatMap stepsL = acc := by
  rcases h with ⟨rfl, hacc, hok⟩ | ⟨rs, l, c, rfl, rfl, hoc, hz, hok, hacc⟩
  · refine ⟨rows, [], push_new rows A, rfl, fun r hr => ?_, ?_⟩
    · rcases List.mem_append.1 hr with h | h
      · exact hok r h
      · rw [List.mem_singleton.1 h]; exact row_one hA
    · rw [List.flatMap_append, hacc]; simp [stepsL, stepsR]
  · obtain rfl := hP hz
    refine ⟨rs, l ++ [c], by rw [push_old], rfl, fun r hr => ?_, ?_⟩
    · rcases List.mem_append.1 hr with h | h
      · exact hok r (List.mem_append_left _ h)
      · rw [List.mem_singleton.1 h]; exact row_push (hok _ (by simp)) hA hoc
    · rw [steps_push, hacc]

theorem lineR_spec {o : Bool} {lx ly hx hy : Int} (h1 : lx < hx) (h2 : ly < hy) : ∀ (l : List (Int × Int)) (P : Int × Int) (rows : List (List (Int × Int))) (line : Nat) (acc : List ((Int × Int) × (Int × Int))), LState o lx ly hx hy P rows line acc → OctiL P l → l ≠ [] →
    (lineR o lx ly hx hy l P (rows, line)).1.flatMap stepsL = acc ++ (stepsR P l).filter (keepS o lx ly hx hy) ∧ ∀ r ∈ (lineR o lx ly hx hy l P (rows, line)).1, RowOk lx ly hx hy r
  | [], _, _, _, _, _, _, h => absurd rfl h
  | Q :: l, P, rows, line, acc, hs, ho, _ => by
    obtain ⟨s1, s2⟩ := segP_spec (o := o) h1 h2 ho.1
    have hfil : (stepsR P (Q :: l)).filter (keepS o lx ly hx hy) = (segS P Q).filter (keepS o lx ly hx hy) ++ (stepsR Q l).filter (keepS o lx ly hx hy) := by
      rw [stepsR, List.filter_append]
    rw [lineR, hfil]
    cases hseg : segP o lx ly hx hy P Q with
    | none =>
      obtain ⟨zP, zQ, hf⟩ := s1 hseg
      have e : stepR o lx ly hx hy l.isEmpty (rows, line) P Q = (rows, line) := by unfold stepR; rw [hseg]
      rw [e, hf, List.nil_append]
      have hF : line = rows.length ∧ rows.flatMap stepsL = acc ∧ ∀ r ∈ rows, RowOk lx ly hx hy r := by
        rcases hs with h | ⟨_, _, _, _, _, _, hz, _⟩
        · exact h
        · exact absurd hz zP
      by_cases hl : l = []
      · subst hl
        rw [lineR]
        exact ⟨by rw [hF.2.1]; simp [stepsR], hF.2.2⟩
      · exact lineR_spec h1 h2 l Q rows line acc (.inl hF) ho.2 hl
    | some AC =>
      obtain ⟨A, C⟩ := AC
      obtain ⟨bA, bC, oAC, oAQ, eA, eC, hf⟩ := s2 A C hseg
      obtain ⟨rs, m, hp, hln, hok, hacc⟩ := state_push hs bA eA
      rw [hf]
      have hpC : pushL (pushL rows line A) line C = rs ++ [m ++ [A] ++ [C]] := by rw [hp, hln]; exact push_old rs (m ++ [A]) C
      have hokC : ∀ r ∈ rs ++ [m ++ [A] ++ [C]], RowOk lx ly hx hy r := fun r hr => by
        rcases List.mem_append.1 hr with h | h
        · exact hok r (List.mem_append_left _ h)
        · rw [List.mem_singleton.1 h]; exact row_push (hok _ (by simp)) bC oAC
      have haccC : (rs ++ [m ++ [A] ++ [C]]).flatMap stepsL = acc ++ segS A C := by rw [steps_push, hacc]
      by_cases hz : codeX o lx ly hx hy Q.1 Q.2 = 0
      · obtain rfl := eC hz
        by_cases hl : l = []
        · subst hl
          have e : stepR o lx ly hx hy ([] : List (Int × Int)).isEmpty (rows, line) P C = (rs ++ [m ++ [A] ++ [C]], line) := by
            unfold stepR; rw [hseg]; simp only [hz, if_true, List.isEmpty_nil, hpC]
          rw [e, lineR, haccC]
          exact ⟨by simp [stepsR], hokC⟩
        · have e : stepR o lx ly hx hy l.isEmpty (rows, line) P C = (rs ++ [m ++ [A]], line) := by
            have hle : l.isEmpty = false := by cases l <;> simp at hl ⊢
            unfold stepR; rw [hseg]; simp only [hz, if_true, hle, Bool.false_eq_true, if_false, hp]
          rw [e, ← List.append_assoc]
          exact lineR_spec h1 h2 l C (rs ++ [m ++ [A]]) line (acc ++ segS A C) (.inr ⟨rs, m, A, rfl, hln, oAC, hz, hok, by rw [hacc]⟩) ho.2 hl
      · by_cases hl : l = []
        · subst hl
          have e : stepR o lx ly hx hy ([] : List (Int × Int)).isEmpty (rows, line) P Q = (rs ++ [m ++ [A] ++ [C]], line) := by
            unfold stepR; rw [hseg]; simp only [hz, if_true, if_false, List.isEmpty_nil, hpC]
          rw [e, lineR, haccC]
          exact ⟨by simp [stepsR], hokC⟩
        · have e : stepR o lx ly hx hy l.isEmpty (rows, line) P Q = (rs ++ [m ++ [A] ++ [C]], line + 1) := by
            have hle : l.isEmpty = false := by cases l <;> simp at hl ⊢
            unfold stepR; rw [hseg]; simp only [hz, hle, Bool.false_eq_true, if_false, hpC]
          rw [e, ← List.append_assoc]
          exact lineR_spec h1 h2 l Q _ (line + 1) (acc ++ segS A C) (.inl ⟨by rw [hln]; simp, haccC, hokC⟩) ho.2 hl

/-- The parts of a line hold just those of its steps that are left. -/
theorem line_spec {o : Bool} {lx ly hx hy : Int} (h1 : lx < hx) (h2 : ly < hy) {ps : List (Int × Int)} (ho : OctiL (ps.headD (0, 0)) ps) :
    (lineL o lx ly hx hy ps).flatMap stepsL = (stepsL ps).filter (keepS o lx ly hx hy) ∧ ∀ r ∈ lineL o lx ly hx hy ps, RowOk lx ly hx hy r := by
  cases ps with
  | nil => simp [lineL, stepsL]
  | cons P l =>
    by_cases hl : l = []
    · subst hl; simp [lineL, lineR, stepsL, stepsR]
    · have h := lineR_spec (o := o) h1 h2 l P [] 0 [] (.inl ⟨rfl, rfl, fun r hr => by simp at hr⟩) ho.2 hl
      exact ⟨h.1, h.2⟩
end Go.Proofs.Ytafanlbfbfbeoaa
