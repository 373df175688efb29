/- Rings in plain words. -/
import Derived.Test.YtafanlbfbfbeoaaCd
namespace Go.Proofs.Ytafanlbfbfbeoaa

theorem octi_move (p : Int × Int) (m : Int) : Octi p (moveS p m) := by
  obtain ⟨j, hj, hj'⟩ : ∃ j : Nat, (m % 8).toNat = j ∧ j < 8 := ⟨_, rfl, by omega⟩
  unfold moveS Octi
  rw [hj]
  simp only
  obtain rfl | rfl | rfl | rfl | rfl | rfl | rfl | rfl : j = 0 ∨ j = 1 ∨ j = 2 ∨ j = 3 ∨ j = 4 ∨ j = 5 ∨ j = 6 ∨ j = 7 := by omega
  all_goals simp [dxL, dyL]
  all_goals omega

theorem way_octi : ∀ (ms : List Int) (p q : Int × Int), Octi q p → OctiL q (wayL p ms)
  | [], p, q, h => ⟨h, trivial⟩
  | m :: ms, p, q, h => ⟨h, way_octi ms _ _ (octi_move p m)⟩

theorem wayL_head (p : Int × Int) (ms : List Int) : (wayL p ms).headD (0, 0) = p := by cases ms <;> rfl

theorem octi_self (p : Int × Int) : Octi p p := .inl rfl

theorem closed_ring {ws : List (Int × Int)} (hpos : 0 < ws.length) (hlen : ws.length ≤ 900) (hn : ∀ p ∈ ws, Near p) (ho : OctiL (ws.headD (0, 0)) ws) : RingOk (closedL ws) ∧ 0 < (closedL ws).length := by
  have hne : ws ≠ [] := List.length_pos_iff.1 hpos
  obtain ⟨f, hf⟩ : ∃ f, f = ws.headD (0, 0) := ⟨_, rfl⟩
  obtain ⟨l, hl⟩ : ∃ l, l = lastOr (0, 0) ws := ⟨_, rfl⟩
  have hfn : Near f := by
    rw [hf]; cases ws with
    | nil => exact absurd rfl hne
    | cons a b => exact hn a (by simp)
  have hln : Near l := by rw [hl]; exact hn _ (lastOr_mem _ hne)
  have hfh : ws.head? = some f := by rw [hf]; cases ws with
    | nil => exact absurd rfl hne
    | cons a b => rfl
  unfold closedL
  rw [← hf, ← hl]
  have hlf : lastOr f ws = l := by rw [hl]; exact lastOr_ne _ _ hne
  rw [← hf] at ho
  -- the ring, from its first point on
  have key : ∀ ss : List (Int × Int), ss.length ≤ 3 → (∀ p ∈ ss, Near p) → OctiL l ss → lastOr l ss = f → RingOk (ws ++ ss) := by
    intro ss h1 h2 h3 h4
    have hla : lastOr (0, 0) (ws ++ ss) = f := by rw [lastOr_append, ← hl, h4]
    refine ⟨by rw [List.length_append]; omega, ?_, ?_, ?_⟩
    · intro p hp
      rcases List.mem_append.1 hp with h | h
      · exact hn p h
      · exact h2 p h
    · unfold OctiR
      rw [hla, octiL_append, hlf]
      exact ⟨ho, h3⟩
    · have e1 : (ws ++ ss).head? = some f := by rw [List.head?_append, hfh]; rfl
      have e2 : (ws ++ ss).getLast? = some f := by
        have hz : ws ++ ss ≠ [] := by simp [hne]
        rw [← hla]
        unfold lastOr
        rw [List.getLast?_eq_some_getLast hz]
        rfl
      rw [e1, e2]
  have hpl : ∀ ss : List (Int × Int), 0 < (ws ++ ss).length := fun ss => by rw [List.length_append]; omega
  have hmid : Near (f.1, l.2) := ⟨hfn.1, hln.2⟩
  by_cases hX : l.1 = f.1 <;> by_cases hY : l.2 = f.2
  · have hlf' : l = f := Prod.ext hX hY
    by_cases h1 : ws.length = 1
    · have e : backOne f (backY f l (backX f l ws)) = ws ++ [f] := by simp [backX, backY, backOne, hX, hY, h1]
      rw [e]
      exact ⟨key [f] (by simp) (by simpa using hfn) ⟨by rw [hlf']; exact octi_self f, trivial⟩ rfl, hpl _⟩
    · have e : backOne f (backY f l (backX f l ws)) = ws ++ [] := by simp [backX, backY, backOne, hX, hY, h1]
      rw [e]
      exact ⟨key [] (by simp) (by simp) trivial hlf', hpl _⟩
  · have e : backOne f (backY f l (backX f l ws)) = ws ++ [f] := by
      unfold backOne backY backX; simp only [if_pos hX, if_neg hY]; rw [if_neg (by simp only [List.length_append, List.length_cons, List.length_nil]; omega)]
    rw [e]
    exact ⟨key [f] (by simp) (by simpa using hfn) ⟨.inl hX, trivial⟩ rfl, hpl _⟩
  · have e : backOne f (backY f l (backX f l ws)) = ws ++ [(f.1, l.2)] := by
      unfold backOne backY backX; simp only [if_neg hX, if_pos hY]; rw [if_neg (by simp only [List.length_append, List.length_cons, List.length_nil]; omega)]
    rw [e]
    exact ⟨key [(f.1, l.2)] (by simp) (by simpa using hmid) ⟨.inr (.inl rfl), trivial⟩ (Prod.ext rfl hY), hpl _⟩
  · have e : backOne f (backY f l (backX f l ws)) = ws ++ [(f.1, l.2), f] := by
      unfold backOne backY backX; simp only [if_neg hX, if_neg hY]; rw [if_neg (by simp only [List.length_append, List.length_cons, List.length_nil]; omega)]; simp
    rw [e]
    exact ⟨key [(f.1, l.2), f] (by simp) (by simpa using ⟨hmid, hfn⟩) ⟨.inr (.inl rfl), .inl rfl, trivial⟩ rfl, hpl _⟩

/-- What lies inside stays. -/
theorem clip_whole {ins : Int × Int → Bool} {cut : Int × Int → Int × Int → Int × Int} : ∀ (l : List (Int × Int)) (q : Int × Int), ins q = true → (∀ p ∈ l, ins p = true) → clipL ins cut q l = l
  | [], _, _, _ => rfl
  | p :: l, q, hq, h => by
    rw [clipL, clip_whole l p (h p (by simp)) fun u hu => h u (by simp [hu])]
    unfold emit
    rw [h p (by simp), hq]
    rfl

theorem pass_whole {lx ly hx hy e : Int} {ps : List (Int × Int)} (h : ∀ p ∈ ps, inB lx ly hx hy e p = true) : passL lx ly hx hy e ps = ps := by
  by_cases hz : ps = []
  · subst hz; rfl
  · exact clip_whole _ _ (h _ (lastOr_mem _ hz)) h

theorem ring_whole {lx ly hx hy : Int} {ps : List (Int × Int)} (hc : ps.head? = ps.getLast?) (h : ∀ p ∈ ps, hasB lx ly hx hy p.1 p.2 = true) : ringL lx ly hx hy ps = ps := by
  have h2 : ∀ p ∈ ps, lx ≤ p.1 ∧ p.1 ≤ hx ∧ ly ≤ p.2 ∧ p.2 ≤ hy := fun p hp => (hasB_iff ..).1 (h p hp)
  unfold ringL sidesL
  rw [pass_whole (e := 1) fun p hp => decide_eq_true (h2 p hp).1, pass_whole (e := 2) fun p hp => decide_eq_true (h2 p hp).2.1, pass_whole (e := 4) fun p hp => decide_eq_true (h2 p hp).2.2.1, pass_whole (e := 8) fun p hp => decide_eq_true (h2 p hp).2.2.2]
  unfold closeL
  rw [if_pos hc]
end Go.Proofs.Ytafanlbfbfbeoaa
