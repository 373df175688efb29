/- A line, clipped, as the thin package gives it. -/
import Derived.Test.YtafanlbfbfbeoaaLn
import Derived.Test.YtafanlbfbfbeoaaOf
namespace Go.Proofs.Ytafanlbfbfbeoaa
open Go.RowKit

set_option maxRecDepth 100000 in
set_option maxHeartbeats 1000000 in
theorem lineString_any (lx ly hx hy : Int) (hl : Near (lx, ly)) (hh : Near (hx, hy)) (h1 : lx < hx) (h2 : ly < hy) (ao : Option Addr) (cap : Nat) (ps : List (Int × Int)) (B : Nat) (w : World) (hlen : ps.length ≤ 1000) (hn : ∀ p ∈ ps, Near p)
    (hoc : ∀ i (h : i + 1 < ps.length), Octi ps[i] ps[i + 1]) (h : w.ownsRow B 69 2 (.slice ao ps.length cap) ps.length (ps.flatMap ptE)) :
    Calls Try.prog 48 #[.agg #[.float .f64 (F lx), .float .f64 (F ly), .float .f64 (F hx), .float .f64 (F hy)], .slice ao ps.length cap, .slice none 0 0] w
      fun e w' => ∃ v xs, e = .returned v ∧ xs.map Prod.snd = lineL false lx ly hx hy ps ∧ RowsAt w' w.heap.size 100 69 ptE v xs ∧ Below w.heap.size w w' ∧ (∀ x ∈ xs, x.2.length ≤ 2000) ∧ xs.length ≤ 1001 := by
  have hline := fun W hr => line_any false lx ly hx hy hl hh h1 h2 ao cap ps B W hlen hn hoc hr
  generalize lineL false lx ly hx hy ps = R at *
  go_enter Try.func48, Try.ntmps48
  go_wp2_with fail
  refine (hline _ (h.alloc _)).mono ?_
  rintro e w1 ⟨v1, x1, rfl, hx1, hr1, hb1, hl1, hn1⟩
  have hB1 : Below w.heap.size w w1 := ((Below.refl _ _).alloc (Nat.le_refl _) _).trans (hb1.mono (by simp))
  have hr2 := hr1.mono (B' := w.heap.size) (by simp)
  obtain ⟨ao1, cap1, g1, rfl, hg1, _⟩ := hr2.read
  clear hline hb1 hr1 h
  by_cases hz : x1 = []
  · have hR : Hid (R = []) := by show _ = _; rw [← hx1, hz]; rfl
    clear hx1 hr2 hl1 hg1
    subst hz
    go_wp2_with fail
    go_ret
    exact ⟨.slice none 0 0, [], rfl, hR.out.symm, ⟨none, 0, rfl, World.ownsRow_nil _ _ _ _, fun x hx => by simp at hx⟩, hB1, fun x hx => by simp at hx, by simp⟩
  · have hp : 0 < x1.length := List.length_pos_iff.2 hz
    have HX : Hid (x1.map Prod.snd = R) := hx1
    clear hx1 hg1
    go_wp2_with fail
    go_ret
    exact ⟨.slice ao1 x1.length cap1, x1, rfl, HX.out, hr2, hB1, hl1, hn1⟩

theorem seg_in {o : Bool} {lx ly hx hy : Int} {P Q : Int × Int} (hPQ : Octi P Q) (hP : codeX o lx ly hx hy P.1 P.2 = 0) (hQ : codeX o lx ly hx hy Q.1 Q.2 = 0) : segP o lx ly hx hy P Q = some (P, Q) := by
  have hend := pt_len hPQ
  have h0 := pt_zero P (dirK P Q)
  have e : segL lx ly hx hy P (dirK P Q) ((lenK P Q).toNat + 3) o o 0 (lenK P Q) = some (0, lenK P Q) := by
    rw [segL, if_pos]
    rw [h0, hend]
    exact ⟨(codeX_zero o lx ly hx hy P.1 P.2).1 hP, (codeX_zero o lx ly hx hy Q.1 Q.2).1 hQ⟩
  unfold segP
  rw [e, Option.map_some, h0, hend]

/-- A line within the box is itself. -/
theorem line_in {o : Bool} {lx ly hx hy : Int} : ∀ (l : List (Int × Int)) (P : Int × Int) (rows : List (List (Int × Int))) (pre : List (Int × Int)), (rows = [] ∧ pre = [] ∨ rows = [pre]) → l ≠ [] → OctiL P l → codeX o lx ly hx hy P.1 P.2 = 0 → (∀ Q ∈ l, codeX o lx ly hx hy Q.1 Q.2 = 0) →
    (lineR o lx ly hx hy l P (rows, 0)).1 = [pre ++ P :: l]
  | [], _, _, _, _, h, _, _, _ => absurd rfl h
  | [Q], P, rows, pre, hr, _, ho, hP, hQ => by
    have hq := hQ Q (by simp)
    rw [lineR, lineR, stepR, seg_in ho.1 hP hq]
    simp only [hq, if_true, List.isEmpty_nil]
    rcases hr with ⟨rfl, rfl⟩ | rfl <;> simp [pushL]
  | Q :: R :: l, P, rows, pre, hr, _, ho, hP, hQ => by
    have hq := hQ Q (by simp)
    have e : stepR o lx ly hx hy (R :: l).isEmpty (rows, 0) P Q = ([pre ++ [P]], 0) := by
      rw [stepR, seg_in ho.1 hP hq]
      simp only [hq, if_true, List.isEmpty_cons, Bool.false_eq_true, if_false]
      rcases hr with ⟨rfl, rfl⟩ | rfl <;> simp [pushL]
    rw [lineR, e, line_in (R :: l) Q _ (pre ++ [P]) (.inr rfl) (by simp) ho.2 hq fun S hS => hQ S (by simp [hS])]
    simp

theorem octi_get : ∀ {l : List (Int × Int)} {q : Int × Int} (_ : OctiL q l) (i : Nat) (hi : i + 1 < l.length), Octi l[i] l[i + 1]
  | [], _, _, i, hi => by simp at hi
  | [p], _, _, i, hi => by simp at hi
  | p :: r :: l, q, h, 0, _ => h.2.1
  | p :: r :: l, q, h, i + 1, hi => octi_get (l := r :: l) h.2 i (by simpa using hi)

theorem code_has {lx ly hx hy : Int} {p : Int × Int} (h : hasB lx ly hx hy p.1 p.2 = true) : codeX false lx ly hx hy p.1 p.2 = 0 := by
  have h := hasB_iff.1 h
  unfold codeX acode
  simp only [Bool.false_eq_true, if_false]
  (repeat' split) <;> omega
end Go.Proofs.Ytafanlbfbfbeoaa
