/- What is left of a ring lies in the box. -/
import Derived.Test.YtafanlbfbfbeoaaWn
namespace Go.Proofs.Ytafanlbfbfbeoaa

theorem on_in {lx ly hx hy e : Int} {p : Int × Int} (he : Side e) (h : onB lx ly hx hy e p) : inB lx ly hx hy e p = true := by
  rcases he with rfl | rfl | rfl | rfl
  · rw [onB_1] at h; rw [inB_1, decide_eq_true_iff]; omega
  · rw [onB_2] at h; rw [inB_2, decide_eq_true_iff]; omega
  · rw [onB_4] at h; rw [inB_4, decide_eq_true_iff]; omega
  · rw [onB_8] at h; rw [inB_8, decide_eq_true_iff]; omega

theorem cut_mid {lx ly hx hy e : Int} {q p : Int × Int} (he : Side e) (ho : Octi q p) (hd : inB lx ly hx hy e p ≠ inB lx ly hx hy e q) :
    (min q.1 p.1 ≤ (cutP lx ly hx hy e q p).1 ∧ (cutP lx ly hx hy e q p).1 ≤ max q.1 p.1) ∧ (min q.2 p.2 ≤ (cutP lx ly hx hy e q p).2 ∧ (cutP lx ly hx hy e q p).2 ≤ max q.2 p.2) := by
  obtain ⟨s, hs, ⟨m, hm, hb, hc, hr⟩ | ⟨m, hm, hb, hc, hr⟩⟩ := cut_form he ho hd
  · rw [hc]; rcases hs with rfl | rfl | rfl <;> simp only <;> omega
  · rw [hc]; rcases hs with rfl | rfl | rfl <;> simp only <;> omega

theorem mid_in {lx ly hx hy e : Int} {q p c : Int × Int} (he : Side e) (hq : inB lx ly hx hy e q = true) (hp : inB lx ly hx hy e p = true) (h1 : min q.1 p.1 ≤ c.1 ∧ c.1 ≤ max q.1 p.1) (h2 : min q.2 p.2 ≤ c.2 ∧ c.2 ≤ max q.2 p.2) : inB lx ly hx hy e c = true := by
  rcases he with rfl | rfl | rfl | rfl
  · rw [inB_1, decide_eq_true_iff] at *; omega
  · rw [inB_2, decide_eq_true_iff] at *; omega
  · rw [inB_4, decide_eq_true_iff] at *; omega
  · rw [inB_8, decide_eq_true_iff] at *; omega

theorem clip_in {lx ly hx hy e : Int} (he : Side e) : ∀ (l : List (Int × Int)) (q : Int × Int), Near q → (∀ p ∈ l, Near p) → OctiL q l → ∀ u ∈ clipL (inB lx ly hx hy e) (cutP lx ly hx hy e) q l, inB lx ly hx hy e u = true
  | [], _, _, _, _, u, hu => by simp [clipL] at hu
  | p :: l, q, hq, hn, ho, u, hu => by
    have hp : Near p := hn p (by simp)
    rw [clipL] at hu
    rcases List.mem_append.1 hu with h | h
    · unfold emit at h
      rcases List.mem_append.1 h with h | h
      · split at h
        · simp at h
        · rename_i hne
          rw [List.mem_singleton.1 h]
          exact on_in he (cut_facts he hq hp ho.1 hne).2.2.1
      · split at h
        · rename_i hi; rw [List.mem_singleton.1 h]; exact hi
        · simp at h
    · exact clip_in he l p hp (fun v hv => hn v (by simp [hv])) ho.2 u h

theorem clip_keep {lx ly hx hy e d : Int} (he : Side e) (hd : Side d) : ∀ (l : List (Int × Int)) (q : Int × Int), inB lx ly hx hy d q = true → (∀ p ∈ l, inB lx ly hx hy d p = true) → OctiL q l → ∀ u ∈ clipL (inB lx ly hx hy e) (cutP lx ly hx hy e) q l, inB lx ly hx hy d u = true
  | [], _, _, _, _, u, hu => by simp [clipL] at hu
  | p :: l, q, hq, hn, ho, u, hu => by
    have hp := hn p (by simp)
    rw [clipL] at hu
    rcases List.mem_append.1 hu with h | h
    · unfold emit at h
      rcases List.mem_append.1 h with h | h
      · split at h
        · simp at h
        · rename_i hne
          rw [List.mem_singleton.1 h]
          obtain ⟨m1, m2⟩ := cut_mid he ho.1 hne
          exact mid_in hd hq hp m1 m2
      · split at h
        · rw [List.mem_singleton.1 h]; exact hp
        · simp at h
    · exact clip_keep he hd l p hp (fun v hv => hn v (by simp [hv])) ho.2 u h

theorem pass_in {lx ly hx hy e : Int} (he : Side e) {ps : List (Int × Int)} (hn : ∀ p ∈ ps, Near p) (ho : OctiR ps) : ∀ u ∈ passL lx ly hx hy e ps, inB lx ly hx hy e u = true := by
  by_cases hz : ps = []
  · subst hz; intro u hu; simp [passL, clipL] at hu
  · exact clip_in he ps _ (hn _ (lastOr_mem _ hz)) hn ho

theorem pass_keep {lx ly hx hy e d : Int} (he : Side e) (hd : Side d) {ps : List (Int × Int)} (hn : ∀ p ∈ ps, inB lx ly hx hy d p = true) (ho : OctiR ps) : ∀ u ∈ passL lx ly hx hy e ps, inB lx ly hx hy d u = true := by
  by_cases hz : ps = []
  · subst hz; intro u hu; simp [passL, clipL] at hu
  · exact clip_keep he hd ps _ (hn _ (lastOr_mem _ hz)) hn ho

theorem close_mem {ps : List (Int × Int)} {u : Int × Int} (h : u ∈ closeL ps) : u ∈ ps := by
  unfold closeL at h
  split at h
  · exact h
  · rcases List.mem_append.1 h with h | h
    · exact h
    · cases ps with
      | nil => simp at h
      | cons a b => simp at h; subst h; simp

/-- A ring, clipped, lies in the box. -/
theorem ring_in {lx ly hx hy : Int} {ps : List (Int × Int)} (hn : ∀ p ∈ ps, Near p) (ho : OctiR ps) : ∀ p ∈ ringL lx ly hx hy ps, hasB lx ly hx hy p.1 p.2 = true := by
  have s1 : Side 1 := .inl rfl
  have s2 : Side 2 := .inr (.inl rfl)
  have s4 : Side 4 := .inr (.inr (.inl rfl))
  have s8 : Side 8 := .inr (.inr (.inr rfl))
  obtain ⟨o1, n1, _⟩ := pass_facts (lx := lx) (ly := ly) (hx := hx) (hy := hy) s1 ps hn ho
  obtain ⟨o2, n2, _⟩ := pass_facts (lx := lx) (ly := ly) (hx := hx) (hy := hy) s2 _ n1 o1
  obtain ⟨o3, n3, _⟩ := pass_facts (lx := lx) (ly := ly) (hx := hx) (hy := hy) s4 _ n2 o2
  have i1 := pass_in (lx := lx) (ly := ly) (hx := hx) (hy := hy) s1 hn ho
  have j1 := pass_keep s2 s1 i1 o1
  have i2 := pass_in (lx := lx) (ly := ly) (hx := hx) (hy := hy) s2 n1 o1
  have k1 := pass_keep s4 s1 j1 o2
  have k2 := pass_keep s4 s2 i2 o2
  have i4 := pass_in (lx := lx) (ly := ly) (hx := hx) (hy := hy) s4 n2 o2
  have l1 := pass_keep s8 s1 k1 o3
  have l2 := pass_keep s8 s2 k2 o3
  have l4 := pass_keep s8 s4 i4 o3
  have i8 := pass_in (lx := lx) (ly := ly) (hx := hx) (hy := hy) s8 n3 o3
  intro p hp
  have hp := close_mem hp
  have a1 := l1 p hp
  have a2 := l2 p hp
  have a4 := l4 p hp
  have a8 := i8 p hp
  rw [inB_1, decide_eq_true_iff] at a1
  rw [inB_2, decide_eq_true_iff] at a2
  rw [inB_4, decide_eq_true_iff] at a4
  rw [inB_8, decide_eq_true_iff] at a8
  exact hasB_iff.2 ⟨a1, a2, a4, a8⟩
end Go.Proofs.Ytafanlbfbfbeoaa
