/- A ring, clipped. -/
import Derived.Test.YtafanlbfbfbeoaaCl
import Derived.Test.YtafanlbfbfbeoaaEq
import Derived.Test.YtafanlbfbfbeoaaGr
import Derived.Deep.DeepCutAuto
import Derived.Deep.LoopGhost
namespace Go.Proofs.Ytafanlbfbfbeoaa
open Go.RowKit

/-- The side that is next, if so many are left. -/
def edgeOf : Nat → Int
  | 0 => 16
  | 1 => 8
  | 2 => 4
  | 3 => 2
  | _ => 1

/-- What the sides that are left make of a ring. -/
def todo (lx ly hx hy : Int) : Nat → List (Int × Int) → List (Int × Int)
  | 0, ps => ps
  | m + 1, ps => todo lx ly hx hy m (passL lx ly hx hy (edgeOf (m + 1)) ps)

theorem edge_side {m : Nat} (h0 : m ≠ 0) (h : m ≤ 4) : Side (edgeOf m) := by
  obtain rfl | rfl | rfl | rfl : m = 1 ∨ m = 2 ∨ m = 3 ∨ m = 4 := by omega
  · exact .inr (.inr (.inr rfl))
  · exact .inr (.inr (.inl rfl))
  · exact .inr (.inl rfl)
  · exact .inl rfl

theorem edge_next {m : Nat} (h : m ≤ 3) : edgeOf (m + 1) * 2 = edgeOf m := by
  obtain rfl | rfl | rfl | rfl : m = 0 ∨ m = 1 ∨ m = 2 ∨ m = 3 := by omega
  all_goals rfl

theorem todo_all (lx ly hx hy : Int) (ps : List (Int × Int)) : todo lx ly hx hy 4 ps = sidesL lx ly hx hy ps := rfl

theorem todo_nil (lx ly hx hy : Int) : ∀ m, todo lx ly hx hy m [] = []
  | 0 => rfl
  | m + 1 => todo_nil lx ly hx hy m

theorem own_cut0 {w : World} {B : Nat} {e : TypeId} {s k cap : Nat} {ao : Option Addr} {xs : List Value} (h : w.ownsRow B e s (.slice ao k cap) k xs) : w.ownsRow B e s (.slice ao 0 cap) 0 [] := by
  obtain ⟨_, ⟨hv, hk⟩ | ⟨g, cap', cur, hv, hb, hh, hkc, hm, hs, ht⟩⟩ := h
  · refine ⟨by simp, .inl ⟨?_, rfl⟩⟩
    injection hv with h1 h2 h3; rw [h1, h3]
  · injection hv with h1 h2 h3
    subst h1; subst h3
    exact ⟨by simp, .inr ⟨g, cap, cur, rfl, hb, hh, Nat.zero_le _, hm, hs, by simp⟩⟩

/-- What is known between two sides. -/
structure RInv (w wr : World) (B : Nat) (u0 : Option Nat) (b : Nat) (lx ly hx hy : Int) (gi capi : Nat) (rs : List (Int × Int)) (ao : Option Addr) (ko capo : Nat) (ys : List Value) : Prop where
  row : wr.ownsRow B 69 2 (.slice (some ⟨gi, 0, none⟩) rs.length capi) rs.length (rs.flatMap ptE)
  out : wr.ownsRow B 69 2 (.slice ao ko capo) ko ys
  box : Blk wr b #[.float .f64 (F lx), .float .f64 (F ly), .float .f64 (F hx), .float .f64 (F hy)] 71
  bel : Below B w wr
  rowNe : gi ≠ b
  outNe : (Value.slice ao ko capo).ownBlock ≠ some b
  two : (Value.slice ao ko capo).ownBlock ≠ some gi
  pas : ∀ k, k < w.heap.size → u0 ≠ some k → wr.heap[k]? = w.heap[k]?
  rowO : u0 = some gi ∨ w.heap.size ≤ gi
  outO : ∀ g, (Value.slice ao ko capo).ownBlock = some g → u0 = some g ∨ w.heap.size ≤ g

section
variable {w wr w2 : World} {B b : Nat} {u0 : Option Nat} {lx ly hx hy : Int} {gi capi : Nat} {rs : List (Int × Int)} {ao : Option Addr} {ko capo : Nat} {ys : List Value}

theorem RInv.alloc (h : RInv w wr B u0 b lx ly hx hy gi capi rs ao ko capo ys) (hB : B ≤ w.heap.size) (o : Obj) : RInv w (wr.alloc o) B u0 b lx ly hx hy gi capi rs ao ko capo ys :=
  ⟨h.row.alloc o, h.out.alloc o, h.box.alloc o, h.bel.alloc (Nat.le_trans hB h.bel.size) o, h.rowNe, h.outNe, h.two, fun k hk hu => (Below.heap_alloc wr o k (Nat.lt_of_lt_of_le hk h.bel.size)).trans (h.pas k hk hu), h.rowO, h.outO⟩

theorem RInv.below (h : RInv w wr B u0 b lx ly hx hy gi capi rs ao ko capo ys) (hB : B ≤ w.heap.size) (hb : Below wr.heap.size wr w2) : RInv w w2 B u0 b lx ly hx hy gi capi rs ao ko capo ys :=
  ⟨own_below h.row hb (Nat.le_refl _), own_below h.out hb (Nat.le_refl _), h.box.below hb h.box.lt, h.bel.trans (hb.mono (Nat.le_trans hB h.bel.size)), h.rowNe, h.outNe, h.two, fun k hk hu => (hb.block k (Nat.lt_of_lt_of_le hk h.bel.size)).trans (h.pas k hk hu), h.rowO, h.outO⟩

theorem RInv.set (h : RInv w wr B u0 b lx ly hx hy gi capi rs ao ko capo ys) (a : Addr) (hB : B ≤ a.block ∧ w.heap.size ≤ a.block) (h1 : gi ≠ a.block) (h2 : b ≠ a.block) (h3 : (Value.slice ao ko capo).ownBlock ≠ some a.block) (v : Value) : RInv w (wr.setCell a v) B u0 b lx ly hx hy gi capi rs ao ko capo ys :=
  ⟨ownsRow_setCell_other h.row (by simpa [Value.ownBlock] using h1) v, ownsRow_setCell_other h.out h3 v, h.box.setOther a h2 v, h.bel.setCell hB.1 v, h.rowNe, h.outNe, h.two, fun k hk hu => (Below.heap_setCell wr a v k (by have := hB.2; omega)).trans (h.pas k hk hu), h.rowO, h.outO⟩

theorem RInv.cut (h : RInv w wr B u0 b lx ly hx hy gi capi rs ao ko capo ys) : RInv w wr B u0 b lx ly hx hy gi capi rs ao 0 capo [] :=
  have e : (Value.slice ao 0 capo).ownBlock = (Value.slice ao ko capo).ownBlock := by cases ao <;> rfl
  ⟨h.row, own_cut0 h.out, h.box, h.bel, h.rowNe, e ▸ h.outNe, e ▸ h.two, h.pas, h.rowO, e ▸ h.outO⟩

theorem RInv.swap {ga : Nat} (h : RInv w wr B u0 b lx ly hx hy gi capi rs (some ⟨ga, 0, none⟩) ko capo ys) {acc : List (Int × Int)} (hk : ko = acc.length := by rfl) (hy' : ys = acc.flatMap ptE := by rfl) :
    RInv w wr B u0 b lx ly hx hy ga capo acc (some ⟨gi, 0, none⟩) rs.length capi (rs.flatMap ptE) := by
  subst hk; subst hy'
  exact ⟨h.out, h.row, h.box, h.bel, by simpa [Value.ownBlock] using h.outNe, by simpa [Value.ownBlock] using h.rowNe, by simpa [Value.ownBlock] using Ne.symm (by simpa [Value.ownBlock] using h.two : ga ≠ gi), h.pas, h.outO ga rfl, fun g hg => by
    have hg : gi = g := by simpa [Value.ownBlock] using hg
    exact hg ▸ h.rowO⟩

theorem RInv.gi_lt (h : RInv w wr B u0 b lx ly hx hy gi capi rs ao ko capo ys) : gi < wr.heap.size := (h.row.lt gi rfl).2

theorem RInv.push (h : RInv w wr B u0 b lx ly hx hy gi capi rs ao ko capo ys) {o : Obj} {g cap' n' : Nat} {zs : List Value} (ho : w2.ownsRow B 69 2 (.slice (some ⟨g, 0, none⟩) n' cap') n' zs) (hb : Below B w w2)
    (hg : (wr.alloc o).grownBy w2 (Value.slice ao ko capo).ownBlock) (hat : (Value.slice ao ko capo).ownBlock = some g ∨ g = wr.heap.size + 1) : RInv w w2 B u0 b lx ly hx hy gi capi rs (some ⟨g, 0, none⟩) n' cap' zs :=
  ⟨(h.row.alloc o).kept hg (.inr (fun e => h.two (by rw [← e]; rfl))), ho, (h.box.alloc o).grown hg (fun e => h.outNe e.symm), hb, h.rowNe,
    fun e => by
      have e : g = b := by simpa [Value.ownBlock] using e
      rcases hat with e1 | e1
      · exact h.outNe (by rw [e1, e])
      · have := h.box.lt; omega,
    fun e => by
      have e : g = gi := by simpa [Value.ownBlock] using e
      rcases hat with e1 | e1
      · exact h.two (by rw [e1, e])
      · have := h.gi_lt; omega,
    fun k hk hu => by
      have hkw := Nat.lt_of_lt_of_le hk h.bel.size
      rw [hg.block k (by simp; omega) (fun e => by
        rcases h.outO k e.symm with e1 | e1
        · exact hu e1
        · omega), Below.heap_alloc wr o k hkw]
      exact h.pas k hk hu,
    h.rowO,
    fun x hx => by
      have hx : g = x := by simpa [Value.ownBlock] using hx
      subst hx
      rcases hat with e1 | e1
      · exact h.outO g e1
      · have := h.bel.size; omega⟩

/-- What a call leaves as it was: all but one block, and what it makes. -/
def Apart (w w' : World) (u v : Value) : Prop :=
  (∀ k, k < w.heap.size → u.ownBlock ≠ some k → w'.heap[k]? = w.heap[k]?) ∧ ∀ g, v.ownBlock = some g → u.ownBlock = some g ∨ w.heap.size ≤ g
end

theorem last_is {rs : List (Int × Int)} (h : 0 < rs.length) (q : Int × Int) : lastOr q rs = rs[rs.length - 1]'(by omega) := by
  unfold lastOr
  rw [List.getLast?_eq_getElem?, List.getElem?_eq_getElem (by omega)]
  rfl

theorem step_facts {rs : List (Int × Int)} {q : Int × Int} {k : Nat} (hk : k < rs.length) (hq : q = rs[rs.length - 1]'(by omega)) (hn : ∀ p ∈ rs, Near p) (ho : OctiR rs) :
    Near (lastOr q (rs.take k)) ∧ Octi (lastOr q (rs.take k)) rs[k] := by
  have hq2 : q = lastOr (0, 0) rs := by rw [last_is (by omega)]; exact hq
  constructor
  · by_cases hz : rs.take k = []
    · rw [hz, hq]; exact hn _ (List.getElem_mem _)
    · exact hn _ (List.mem_of_mem_take (lastOr_mem _ hz))
  · unfold OctiR at ho
    rw [← hq2] at ho
    have e : rs = rs.take k ++ rs[k] :: rs.drop (k + 1) := by rw [List.getElem_cons_drop, List.take_append_drop]
    have ho2 : OctiL q (rs.take k ++ rs[k] :: rs.drop (k + 1)) := by rw [← e]; exact ho
    exact ((octiL_append _ _ _).1 ho2).2.1

theorem step_done {ins : Int × Int → Bool} {cut : Int × Int → Int × Int → Int × Int} {rs acc : List (Int × Int)} {q z p : Int × Int} {k : Nat} (hk : k < rs.length) (h : acc = clipL ins cut q (rs.take k) ∧ z = lastOr q (rs.take k)) (hp : p = rs[k]) :
    acc ++ emit ins cut z p = clipL ins cut q (rs.take (k + 1)) ∧ p = lastOr q (rs.take (k + 1)) := by
  obtain ⟨rfl, rfl⟩ := h
  subst hp
  rw [List.take_succ_eq_append_getElem hk, clip_snoc, lastOr_append]
  exact ⟨rfl, rfl⟩

end Go.Proofs.Ytafanlbfbfbeoaa
