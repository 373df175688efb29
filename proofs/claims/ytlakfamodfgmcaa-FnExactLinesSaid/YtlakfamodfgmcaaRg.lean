/- A ring, clipped. -/
import Derived.Test.YtlakfamodfgmcaaCl
import Derived.Test.YtlakfamodfgmcaaEq
import Derived.Test.YtlakfamodfgmcaaGr
import Derived.Deep.DeepCutAuto
import Derived.Deep.LoopGhost
namespace Go.Proofs.Ytlakfamodfgmcaa
open Go.RowKit

/-- The side that is next, if so many are left. -/
def edgeOf : Nat → Int
  | 0 => 16
  | 1 => 8
  | 2 => 4
  | 3 => 2
  | _ => 1

/-- What the sides that are left make of a ring. -/
def todo (lx ly hx hy : Int) : Nat → List (Int × Int) → List (Int × Int)
  | 0, ps => ps
  | m + 1, ps => todo lx ly hx hy m (passL lx ly hx hy (edgeOf (m + 1)) ps)

theorem edge_side {m : Nat} (h0 : m ≠ 0) (h : m ≤ 4) : Side (edgeOf m) := by
  obtain rfl | rfl | rfl | rfl : m = 1 ∨ m = 2 ∨ m = 3 ∨ m = 4 := by omega
  · exact .inr (.inr (.inr rfl))
  · exact .inr (.inr (.inl rfl))
  · exact .inr (.inl rfl)
  · exact .inl rfl

theorem edge_next {m : Nat} (h : m ≤ 3) : edgeOf (m + 1) * 2 = edgeOf m := by
  obtain rfl | rfl | rfl | rfl : m = 0 ∨ m = 1 ∨ m = 2 ∨ m = 3 := by omega
  all_goals rfl

theorem todo_all (lx ly hx hy : Int) (ps : List (Int × Int)) : todo lx ly hx hy 4 ps = sidesL lx ly hx hy ps := rfl

theorem todo_nil (lx ly hx hy : Int) : ∀ m, todo lx ly hx hy m [] = []
  | 0 => rfl
  | m + 1 => todo_nil lx ly hx hy m

theorem own_cut0 {w : World} {B : Nat} {e : TypeId} {s k cap : Nat} {ao : Option Addr} {xs : List Value} (h : w.ownsRow B e s (.slice ao k cap) k xs) : w.ownsRow B e s (.slice ao 0 cap) 0 [] := by
  obtain ⟨_, ⟨hv, hk⟩ | ⟨g, cap', cur, hv, hb, hh, hkc, hm, hs, ht⟩⟩ := h
  · refine ⟨by simp, .inl ⟨?_, rfl⟩⟩
    injection hv with h1 h2 h3; rw [h1, h3]
  · injection hv with h1 h2 h3
    subst h1; subst h3
    exact ⟨by simp, .inr ⟨g, cap, cur, rfl, hb, hh, Nat.zero_le _, hm, hs, by simp⟩⟩

/-- What is known between two sides. -/
structure RInv (w wr : World) (B : Nat) (u0 : Option Nat) (b : Nat) (lx ly hx hy : Int) (gi capi : Nat) (rs : List (Int × Int)) (ao : Option Addr) (ko capo : Nat) (ys : List Value) : Prop where
  row : wr.ownsRow B 71 2 (.slice (some ⟨gi, 0, none⟩) rs.length capi) rs.length (rs.flatMap ptE)
  out : wr.ownsRow B 71 2 (.slice ao ko capo) ko ys
  box : Blk wr b #[.float .f64 (F lx), .float .f64 (F ly), .float .f64 (F hx), .float .f64 (F hy)] 73
  bel : Below B w wr
  rowNe : gi ≠ b
  outNe : (Value.slice ao ko capo).ownBlock ≠ some b
  two : (Value.slice ao ko capo).ownBlock ≠ some gi
  pas : ∀ k, k < w.heap.size → u0 ≠ some k → wr.heap[k]? = w.heap[k]?
  rowO : u0 = some gi ∨ w.heap.size ≤ gi
  outO : ∀ g, (Value.slice ao ko capo).ownBlock = some g → u0 = some g ∨ w.heap.size ≤ g

section
variable {w wr w2 : World} {B b : Nat} {u0 : Option Nat} {lx ly hx hy : Int} {gi capi : Nat} {rs : List (Int × Int)} {ao : Option Addr} {ko capo : Nat} {ys : List Value}

theorem RInv.alloc (h : RInv w wr B u0 b lx ly hx hy gi capi rs ao ko capo ys) (hB : B ≤ w.heap.size) (o : Obj) : RInv w (wr.alloc o) B u0 b lx ly hx hy gi capi rs ao ko capo ys :=
  ⟨h.row.alloc o, h.out.alloc o, h.box.alloc o, h.bel.alloc (Nat.le_trans hB h.bel.size) o, h.rowNe, h.outNe, h.two, fun k hk hu => (Below.heap_alloc wr o k (Nat.lt_of_lt_of_le hk h.bel.size)).trans (h.pas k hk hu), h.rowO, h.outO⟩

theorem RInv.below (h : RInv w wr B u0 b lx ly hx hy gi capi rs ao ko capo ys) (hB : B ≤ w.heap.size) (hb : Below wr.heap.size wr w2) : RInv w w2 B u0 b lx ly hx hy gi capi rs ao ko capo ys :=
  ⟨own_below h.row hb (Nat.le_refl _), own_below h.out hb (Nat.le_refl _), h.box.below hb h.box.lt, h.bel.trans (hb.mono (Nat.le_trans hB h.bel.size)), h.rowNe, h.outNe, h.two, fun k hk hu => (hb.block k (Nat.lt_of_lt_of_le hk h.bel.size)).trans (h.pas k hk hu), h.rowO, h.outO⟩

theorem RInv.set (h : RInv w wr B u0 b lx ly hx hy gi capi rs ao ko capo ys) (a : Addr) (hB : B ≤ a.block ∧ w.heap.size ≤ a.block) (h1 : gi ≠ a.block) (h2 : b ≠ a.block) (h3 : (Value.slice ao ko capo).ownBlock ≠ some a.block) (v : Value) : RInv w (wr.setCell a v) B u0 b lx ly hx hy gi capi rs ao ko capo ys :=
  ⟨ownsRow_setCell_other h.row (by simpa [Value.ownBlock] using h1) v, ownsRow_setCell_other h.out h3 v, h.box.setOther a h2 v, h.bel.setCell hB.1 v, h.rowNe, h.outNe, h.two, fun k hk hu => (Below.heap_setCell wr a v k (by have := hB.2; omega)).trans (h.pas k hk hu), h.rowO, h.outO⟩

theorem RInv.cut (h : RInv w wr B u0 b lx ly hx hy gi capi rs ao ko capo ys) : RInv w wr B u0 b lx ly hx hy gi capi rs ao 0 capo [] :=
  have e : (Value.slice ao 0 capo).ownBlock = (Value.slice ao ko capo).ownBlock := by cases ao <;> rfl
  ⟨h.row, own_cut0 h.out, h.box, h.bel, h.rowNe, e ▸ h.outNe, e ▸ h.two, h.pas, h.rowO, e ▸ h.outO⟩

theorem RInv.swap {ga : Nat} (h : RInv w wr B u0 b lx ly hx hy gi capi rs (some ⟨ga, 0, none⟩) ko capo ys) {acc : List (Int × Int)} (hk : ko = acc.length := by rfl) (hy' : ys = acc.flatMap ptE := by rfl) :
    RInv w wr B u0 b lx ly hx hy ga capo acc (some ⟨gi, 0, none⟩) rs.length capi (rs.flatMap ptE) := by
  subst hk; subst hy'
  exact ⟨h.out, h.row, h.box, h.bel, by simpa [Value.ownBlock] using h.outNe, by simpa [Value.ownBlock] using h.rowNe, by simpa [Value.ownBlock] using Ne.symm (by simpa [Value.ownBlock] using h.two : ga ≠ gi), h.pas, h.outO ga rfl, fun g hg => by
    have hg : gi = g := by simpa [Value.ownBlock] using hg
    exact hg ▸ h.rowO⟩

theorem RInv.gi_lt (h : RInv w wr B u0 b lx ly hx hy gi capi rs ao ko capo ys) : gi < wr.heap.size := (h.row.lt gi rfl).2

theorem RInv.push (h : RInv w wr B u0 b lx ly hx hy gi capi rs ao ko capo ys) {o : Obj} {g cap' n' : Nat} {zs : List Value} (ho : w2.ownsRow B 71 2 (.slice (some ⟨g, 0, none⟩) n' cap') n' zs) (hb : Below B w w2)
    (hg : (wr.alloc o).grownBy w2 (Value.slice ao ko capo).ownBlock) (hat : (Value.slice ao ko capo).ownBlock = some g ∨ g = wr.heap.size + 1) : RInv w w2 B u0 b lx ly hx hy gi capi rs (some ⟨g, 0, none⟩) n' cap' zs :=
  ⟨(h.row.alloc o).kept hg (.inr (fun e => h.two (by rw [← e]; rfl))), ho, (h.box.alloc o).grown hg (fun e => h.outNe e.symm), hb, h.rowNe,
    fun e => by
      have e : g = b := by simpa [Value.ownBlock] using e
      rcases hat with e1 | e1
      · exact h.outNe (by rw [e1, e])
      · have := h.box.lt; omega,
    fun e => by
      have e : g = gi := by simpa [Value.ownBlock] using e
      rcases hat with e1 | e1
      · exact h.two (by rw [e1, e])
      · have := h.gi_lt; omega,
    fun k hk hu => by
      have hkw := Nat.lt_of_lt_of_le hk h.bel.size
      rw [hg.block k (by simp; omega) (fun e => by
        rcases h.outO k e.symm with e1 | e1
        · exact hu e1
        · omega), Below.heap_alloc wr o k hkw]
      exact h.pas k hk hu,
    h.rowO,
    fun x hx => by
      have hx : g = x := by simpa [Value.ownBlock] using hx
      subst hx
      rcases hat with e1 | e1
      · exact h.outO g e1
      · have := h.bel.size; omega⟩

/-- What a call leaves as it was: all but one block, and what it makes. -/
def Apart (w w' : World) (u v : Value) : Prop :=
  (∀ k, k < w.heap.size → u.ownBlock ≠ some k → w'.heap[k]? = w.heap[k]?) ∧ ∀ g, v.ownBlock = some g → u.ownBlock = some g ∨ w.heap.size ≤ g
end

theorem last_is {rs : List (Int × Int)} (h : 0 < rs.length) (q : Int × Int) : lastOr q rs = rs[rs.length - 1]'(by omega) := by
  unfold lastOr
  rw [List.getLast?_eq_getElem?, List.getElem?_eq_getElem (by omega)]
  rfl

theorem step_facts {rs : List (Int × Int)} {q : Int × Int} {k : Nat} (hk : k < rs.length) (hq : q = rs[rs.length - 1]'(by omega)) (hn : ∀ p ∈ rs, Near p) (ho : OctiR rs) :
    Near (lastOr q (rs.take k)) ∧ Octi (lastOr q (rs.take k)) rs[k] := by
  have hq2 : q = lastOr (0, 0) rs := by rw [last_is (by omega)]; exact hq
  constructor
  · by_cases hz : rs.take k = []
    · rw [hz, hq]; exact hn _ (List.getElem_mem _)
    · exact hn _ (List.mem_of_mem_take (lastOr_mem _ hz))
  · unfold OctiR at ho
    rw [← hq2] at ho
    have e : rs = rs.take k ++ rs[k] :: rs.drop (k + 1) := by rw [List.getElem_cons_drop, List.take_append_drop]
    have ho2 : OctiL q (rs.take k ++ rs[k] :: rs.drop (k + 1)) := by rw [← e]; exact ho
    exact ((octiL_append _ _ _).1 ho2).2.1

theorem step_done {ins : Int × Int → Bool} {cut : Int × Int → Int × Int → Int × Int} {rs acc : List (Int × Int)} {q z p : Int × Int} {k : Nat} (hk : k < rs.length) (h : acc = clipL ins cut q (rs.take k) ∧ z = lastOr q (rs.take k)) (hp : p = rs[k]) :
    acc ++ emit ins cut z p = clipL ins cut q (rs.take (k + 1)) ∧ p = lastOr q (rs.take (k + 1)) := by
  obtain ⟨rfl, rfl⟩ := h
  subst hp
  rw [List.take_succ_eq_append_getElem hk, clip_snoc, lastOr_append]
  exact ⟨rfl, rfl⟩

set_option maxRecDepth 100000 in
set_option maxHeartbeats 2000000 in
theorem ring_any (lx ly hx hy : Int) (hl : Near (lx, ly)) (hh : Near (hx, hy)) (h1 : lx ≤ hx) (h2 : ly ≤ hy) (ao : Option Addr) (cap : Nat) (ps : List (Int × Int)) (B : Nat) (w : World) (hB : B ≤ w.heap.size) (hlen : ps.length ≤ 2000) (hn : ∀ p ∈ ps, Near p) (ho : OctiR ps) (hcl : ps.head? = ps.getLast?)
    (h : w.ownsRow B 71 2 (.slice ao ps.length cap) ps.length (ps.flatMap ptE)) :
    Calls Try.prog 56 #[.agg #[.float .f64 (F lx), .float .f64 (F ly), .float .f64 (F hx), .float .f64 (F hy)], .slice ao ps.length cap] w
      fun e w' => ∃ ao' cap', e = .returned (.slice ao' (ringL lx ly hx hy ps).length cap') ∧ w'.ownsRow B 71 2 (.slice ao' (ringL lx ly hx hy ps).length cap') (ringL lx ly hx hy ps).length ((ringL lx ly hx hy ps).flatMap ptE) ∧ Below B w w' ∧ Apart w w' (.slice ao ps.length cap) (.slice ao' (ringL lx ly hx hy ps).length cap') := by
  obtain ⟨i0, hi, hz0, hz1, hz2⟩ := info_parts Try.info71
  by_cases hz : ps = []
  · subst hz
    have hr : ringL lx ly hx hy [] = [] := rfl
    rw [hr]
    go_enter Try.func56, Try.ntmps56
    go_wp2
    go_ret
    exact ⟨_, _, rfl, own_below h ((Below.refl _ _).alloc (Nat.le_refl _) _) (Nat.le_refl _), (Below.refl _ _).alloc hB _, fun k hk _ => Below.heap_alloc w _ k hk, fun g hg => .inl hg⟩
  have hpos : 0 < ps.length := List.length_pos_iff.2 hz
  obtain ⟨g, hg, hc⟩ := pts_read h
  obtain ⟨rfl, hgs, hgB⟩ := hg hpos
  have f0 := hc 0 hpos
  have f1 := hc (ps.length - 1) (by omega)
  have hfl : ps[ps.length - 1]'(by omega) = ps[0] := by
    have e1 : ps.head? = some ps[0] := by rw [List.head?_eq_getElem?, List.getElem?_eq_getElem hpos]
    have e2 : ps.getLast? = some (ps[ps.length - 1]'(by omega)) := by rw [List.getLast?_eq_getElem?, List.getElem?_eq_getElem]
    rw [e1, e2] at hcl
    exact (Option.some.inj hcl).symm
  rw [hfl] at f1
  have HF : Hid (w.cell? ⟨g, (ps.length - 1) * 2, none⟩ = some (.float .f64 (F ps[0].1)) ∧ w.cell? ⟨g, (ps.length - 1) * 2 + 1, none⟩ = some (.float .f64 (F ps[0].2))) := f1
  obtain ⟨c0, c1⟩ := f0
  obtain ⟨d0, d1⟩ := f1
  have hs0 := (hn ps[0] (List.getElem_mem _)).sm
  clear hc hfl hcl
  go_enter Try.func56, Try.ntmps56
  go_wp2_with fail
  go_loopg [1, 5, 9] 4 (fun mm vi vo ve wr => ∃ (gi capi : Nat) (rs : List (Int × Int)) (ao : Option Addr) (ko capo : Nat) (ys : List Value), mm ≤ 4 ∧ ve = .int .i64 (edgeOf mm) ∧ vi = .slice (some ⟨gi, 0, none⟩) rs.length capi ∧ vo = .slice ao ko capo ∧
      RInv w wr B (some g) w.heap.size lx ly hx hy gi capi rs ao ko capo ys ∧ 0 < rs.length ∧ rs.length * 2 ^ mm ≤ 32000 ∧ (∀ p ∈ rs, Near p) ∧ OctiR rs ∧ todo lx ly hx hy mm rs = sidesL lx ly hx hy ps)
  case atStart =>
    refine ⟨g, cap, ps, none, 0, 0, [], by omega, rfl, rfl, rfl, ⟨((h.alloc _).alloc _).alloc _, World.ownsRow_nil _ _ _ _, ((Blk.new w _ _).alloc _).alloc _, (((Below.refl _ _).alloc hB _).alloc (by simp; omega) _).alloc (by simp; omega) _, by omega, by simp [Value.ownBlock], by simp [Value.ownBlock], fun k hk _ => by rw [Below.heap_alloc _ _ k (by simp; omega), Below.heap_alloc _ _ k (by simp; omega), Below.heap_alloc w _ k hk], .inl rfl, by simp [Value.ownBlock]⟩, hpos, by omega, hn, ho, rfl⟩
  case round =>
    obtain ⟨gi, capi, rs, ao, ko, capo, ys, hm4, rfl, rfl, rfl, inv, rpos, rlen, rn, ro, HT⟩ := hrel
    obtain ⟨mm, rfl⟩ : ∃ mm, mm = gk := ⟨_, rfl⟩
    have HT : Hid (todo lx ly hx hy mm rs = sidesL lx ly hx hy ps) := HT
    clear c0 c1 d0 d1 HF hs0 h
    by_cases hm : mm = 0
    · subst hm
      have HR : Hid (rs = sidesL lx ly hx hy ps) := HT.out
      clear HT
      obtain ⟨g', hg2, hc2⟩ := pts_read inv.row
      obtain ⟨hgg, hgs, hgB⟩ := hg2 rpos
      obtain rfl : gi = g' := by simpa using hgg
      have rl : rs.length ≤ 32000 := by simpa using rlen
      obtain ⟨c0, c1⟩ := hc2 0 rpos
      obtain ⟨d0, d1⟩ := hc2 (rs.length - 1) (by omega)
      have hsf := (rn _ (List.getElem_mem rpos)).sm
      have hsl := (rn (rs[rs.length - 1]'(by omega)) (List.getElem_mem _)).sm
      obtain ⟨f, hf⟩ : ∃ f, f = rs[0] := ⟨_, rfl⟩
      obtain ⟨q, hq⟩ : ∃ q, q = rs[rs.length - 1]'(by omega) := ⟨_, rfl⟩
      rw [← hf] at c0 c1 hsf
      rw [← hq] at d0 d1 hsl
      have HF : Hid (f = rs[0] ∧ q = rs[rs.length - 1]'(by omega)) := ⟨hf, hq⟩
      clear hf hq hg2 hc2 hgg
      rw [show edgeOf 0 = 16 from rfl]
      have hBr := Nat.le_trans hB inv.bel.size
      by_cases hfq : f = q
      · have h1 : Hid (ringL lx ly hx hy ps = rs) := by
          show _ = _
          unfold ringL
          rw [← HR.out]
          unfold closeL
          rw [if_pos]
          rw [List.head?_eq_getElem?, List.getLast?_eq_getElem?, List.getElem?_eq_getElem rpos, List.getElem?_eq_getElem (by omega), ← HF.out.1, ← HF.out.2, hfq]
        subst hfq
        go_wp2
        go_ret
        rw [h1.out]
        exact ⟨_, _, rfl, (inv.row.alloc _).alloc _, (inv.bel.alloc hBr _).alloc (by simp; omega) _, fun k hk hu => by
          have := inv.bel.size
          rw [Below.heap_alloc _ _ k (by simp; omega), Below.heap_alloc _ _ k (by omega)]
          exact inv.pas k hk hu, fun x hx => by
          have hx : gi = x := by simpa [Value.ownBlock] using hx
          exact hx ▸ inv.rowO⟩
      · have h1 : Hid (ringL lx ly hx hy ps = rs ++ [f]) := by
          show _ = _
          unfold ringL
          rw [← HR.out]
          unfold closeL
          rw [List.head?_eq_getElem?, List.getLast?_eq_getElem?, List.getElem?_eq_getElem rpos, List.getElem?_eq_getElem (by omega), ← HF.out.1, ← HF.out.2, if_neg (by simpa using hfq)]
          rfl
        have hd : (decide (f.1 = q.1) && decide (f.2 = q.2)) = false := by
          rw [Bool.and_eq_false_iff, decide_eq_false_iff_not, decide_eq_false_iff_not, ← Classical.not_and_iff_not_or_not]
          exact fun h => hfq (Prod.ext h.1 h.2)
        clear hfq
        go_wp2_with (at_builtin; refine wpList_push rfl _ _ 78 rfl 71 i0 _ 2 16 Try.underlying78 hi hz0 hz1 hz2 rfl (by decide) (by decide) w _ B _ rs.length _ rfl ((inv.row.alloc _).alloc _) B (below_alloc (below_alloc inv.bel _ hB) _ hB) (Nat.le_refl B) (by have := inv.bel.size; simp; omega) (by omega) [_, _] _ _ (by simp) 1 rfl rfl (by simp [Value.oneCell']) ?_)
        intro g4 cap4 w4 hown4 hbel4 hsz4 hgr4 hat4 hg4
        have hown4' : w4.ownsRow B 71 2 (.slice (some ⟨g4, 0, none⟩) (rs.length + 1) cap4) (rs.length + 1) ((rs ++ [f]).flatMap ptE) := by rw [List.flatMap_append]; simpa [ptE] using hown4
        have hap4 : Apart w w4 (.slice (some ⟨g, 0, none⟩) ps.length cap) (.slice (some ⟨g4, 0, none⟩) (rs.length + 1) cap4) := by
          have hsw := inv.bel.size
          refine ⟨fun k hk hu => ?_, fun x hx => ?_⟩
          · rw [hgr4.block k (by simp; omega) (fun e => by
              have e : k = gi := by simpa [Value.ownBlock] using e
              rcases inv.rowO with e1 | e1
              · exact hu (by rw [e]; exact e1)
              · omega), Below.heap_alloc _ _ k (by simp; omega), Below.heap_alloc _ _ k (by simp; omega), Below.heap_alloc _ _ k (by omega)]
            exact inv.pas k hk hu
          · have hx : g4 = x := by simpa [Value.ownBlock] using hx
            subst hx
            rcases hat4 with e1 | e1
            · have e1 : gi = g4 := by simpa [Value.ownBlock] using e1
              rw [← e1]; exact inv.rowO
            · right; omega
        clear hown4 hsz4 hgr4 hat4
        go_wp2
        go_ret
        rw [h1.out, List.length_append]
        exact ⟨_, _, rfl, hown4', hbel4, hap4⟩
    have rl : rs.length ≤ 32000 := Nat.le_trans (Nat.le_mul_of_pos_right _ (Nat.pow_pos (by decide))) rlen
    have he := edge_side hm hm4
    have he8 : edgeOf mm ≤ 8 := by rcases he with h | h | h | h <;> rw [h] <;> decide
    obtain ⟨e, hee⟩ : ∃ e, e = edgeOf mm := ⟨_, rfl⟩
    have HE : Hid (e = edgeOf mm) := hee
    rw [← hee] at he he8 ⊢
    clear hee
    obtain ⟨g', hg2, hc2⟩ := pts_read inv.row
    obtain ⟨hgg, hgs, hgB⟩ := hg2 rpos
    obtain rfl : gi = g' := by simpa using hgg
    have f1 := hc2 (rs.length - 1) (by omega)
    obtain ⟨d0, d1⟩ := f1
    obtain ⟨q, hq⟩ : ∃ q, q = rs[rs.length - 1]'(by omega) := ⟨_, rfl⟩
    rw [← hq] at d0 d1
    have HQ : Hid (q = rs[rs.length - 1]'(by omega)) := hq
    clear hg2 hc2 hgg hq
    have e0 : wr.cell? ⟨w.heap.size, 0, none⟩ = some (.float .f64 (F lx)) := inv.box.cell 0
    have e1 : wr.cell? ⟨w.heap.size, 1, none⟩ = some (.float .f64 (F ly)) := inv.box.cell 1
    have e2 : wr.cell? ⟨w.heap.size, 2, none⟩ = some (.float .f64 (F hx)) := inv.box.cell 2
    have e3 : wr.cell? ⟨w.heap.size, 3, none⟩ = some (.float .f64 (F hy)) := inv.box.cell 3
    have hbl := inv.box.lt
    have hqn : Near q := by rw [HQ.out]; exact rn _ (List.getElem_mem _)
    go_wp2_with fail
    refine (bitCode_any lx ly hx hy q.1 q.2 hl.sm.1 hl.sm.2 hh.sm.1 hh.sm.2 hqn.sm.1 hqn.sm.2 _).mono ?_
    rintro r w1 ⟨rfl, hb1⟩
    have hprev := (Blk.new wr #[.float .f64 (F q.1), .float .f64 (F q.2)] 71).below hb1 (by simp)
    have inv1 := (inv.cut.alloc hB (.cells #[.float .f64 (F q.1), .float .f64 (F q.2)] 71)).below hB hb1
    have hout1 : (Value.slice ao 0 capo).ownBlock ≠ some wr.heap.size := by
      intro hh; have := ((own_cut0 inv.out).lt _ hh).2; omega
    have hrow1 : gi ≠ wr.heap.size := by omega
    have hbx1 : w.heap.size ≠ wr.heap.size := by omega
    have hB1 : B ≤ wr.heap.size ∧ w.heap.size ≤ wr.heap.size := by have := inv.bel.size; omega
    have hw1 : wr.heap.size < w1.heap.size := hprev.lt
    clear hb1 e0 e1 e2 e3 d0 d1 hbl inv hgs
    obtain ⟨b1, hb1⟩ : ∃ b1, b1 = wr.heap.size := ⟨_, rfl⟩
    rw [← hb1] at hprev hout1 hrow1 hw1 hbx1 hB1 ⊢
    clear hb1
    have hcode : Hid (∀ p : Int × Int, (bits .and .i64 (codeI lx ly hx hy p.1 p.2) e == 0) = inB lx ly hx hy e p) := fun p => code_in he h1 h2
    have hcq := hcode.out q
    go_wp2_with fail
    go_loopw [5, 12, 13] (fun vo vp vk wq => ∃ (k : Nat) (ao' : Option Addr) (capo' : Nat) (acc : List (Int × Int)) (z : Int × Int), k ≤ rs.length ∧ vk = .int .i64 k ∧ vp = .bool (inB lx ly hx hy e z) ∧ vo = .slice ao' acc.length capo' ∧
        Hid (acc = clipL (inB lx ly hx hy e) (cutP lx ly hx hy e) q (rs.take k) ∧ z = lastOr q (rs.take k)) ∧ RInv w wq B (some g) w.heap.size lx ly hx hy gi capi rs ao' acc.length capo' (acc.flatMap ptE) ∧
        Blk wq b1 #[.float .f64 (F z.1), .float .f64 (F z.2)] 71 ∧ (Value.slice ao' acc.length capo').ownBlock ≠ some b1 ∧ b1 < wq.heap.size)
      (fun _ _ i _ => rs.length - (intOf i).toNat)
    case atStart => exact ⟨0, ao, capo, [], q, Nat.zero_le _, rfl, rfl, rfl, ⟨rfl, rfl⟩, inv1, hprev, hout1, hw1⟩
    case round =>
      obtain ⟨k, ao', capo', acc, z, hk, rfl, rfl, rfl, HA, inv, hpv, hne, hb1⟩ := hrel
      clear inv1 hprev hout1 hw1 hcq
      have hgi1 := hrow1
      by_cases hlt : k < rs.length
      · obtain ⟨g', hg2, hc2⟩ := pts_read inv.row
        obtain ⟨hgg, hgs, _⟩ := hg2 (by omega)
        obtain rfl : gi = g' := by simpa using hgg
        obtain ⟨d0, d1⟩ := hc2 k hlt
        clear hg2 hc2 hgg
        have hpn : Near rs[k] := rn _ (List.getElem_mem _)
        obtain ⟨p, hp⟩ : ∃ p, p = rs[k] := ⟨_, rfl⟩
        rw [← hp] at d0 d1 hpn
        have HP : Hid (p = rs[k]) := hp
        clear hp
        have e0 : wr.cell? ⟨w.heap.size, 0, none⟩ = some (.float .f64 (F lx)) := inv.box.cell 0
        have e1 : wr.cell? ⟨w.heap.size, 1, none⟩ = some (.float .f64 (F ly)) := inv.box.cell 1
        have e2 : wr.cell? ⟨w.heap.size, 2, none⟩ = some (.float .f64 (F hx)) := inv.box.cell 2
        have e3 : wr.cell? ⟨w.heap.size, 3, none⟩ = some (.float .f64 (F hy)) := inv.box.cell 3
        have hbl := inv.box.lt
        go_wp2_with fail
        refine (bitCode_any lx ly hx hy p.1 p.2 hl.sm.1 hl.sm.2 hh.sm.1 hh.sm.2 hpn.sm.1 hpn.sm.2 _).mono ?_
        rintro r w2 ⟨rfl, hb2⟩
        have hp2 := (Blk.new wr #[.float .f64 (F p.1), .float .f64 (F p.2)] 71).below hb2 (by simp)
        have inv2 := (inv.alloc hB (.cells #[.float .f64 (F p.1), .float .f64 (F p.2)] 71)).below hB hb2
        have hpv2 := (hpv.alloc (.cells #[.float .f64 (F p.1), .float .f64 (F p.2)] 71)).below hb2 (by simp; omega)
        have hne2 : (Value.slice ao' acc.length capo').ownBlock ≠ some wr.heap.size := by intro hh; have := (inv.out.lt _ hh).2; omega
        have hgi2 : gi ≠ wr.heap.size := by omega
        have hbx2 : w.heap.size ≠ wr.heap.size := by omega
        have hb12 : b1 ≠ wr.heap.size := by omega
        clear hb2 d0 d1 e0 e1 e2 e3 inv hpv hb1 hbl hgs
        obtain ⟨b2, hb2⟩ : ∃ b2, b2 = wr.heap.size := ⟨_, rfl⟩
        rw [← hb2] at hp2 hne2 hgi2 hbx2 hb12 ⊢
        clear hb2
        have hcp := hcode.out p
        obtain ⟨ip, hip⟩ : ∃ ip, inB lx ly hx hy e p = ip := ⟨_, rfl⟩
        obtain ⟨iz, hiz⟩ : ∃ iz, inB lx ly hx hy e z = iz := ⟨_, rfl⟩
        rw [hip] at hcp
        rw [hiz]
        have hal : acc.length ≤ 80000 := by
          have := clip_len (inB lx ly hx hy e) (cutP lx ly hx hy e) (rs.take k) q
          rw [← HA.out.1, List.length_take] at this
          omega
        have hzf := step_facts hlt HQ.out rn ro
        rw [← HA.out.2, ← HP.out] at hzf
        obtain ⟨hzn, hzo⟩ := hzf
        have hsd := step_done hlt HA.out HP.out
        have HS : Hid (acc ++ emit (inB lx ly hx hy e) (cutP lx ly hx hy e) z p = clipL (inB lx ly hx hy e) (cutP lx ly hx hy e) q (rs.take (k + 1)) ∧ p = lastOr q (rs.take (k + 1))) := hsd
        clear hsd
        have hBw := Nat.le_trans hB inv2.bel.size
        have hb1B : B ≤ b1 ∧ w.heap.size ≤ b1 := hB1
        cases ip <;> cases iz
        · have g0 : w2.frozen? ⟨b1, 0, none⟩ = false := hpv2.frozen 0
          have g1 : w2.frozen? ⟨b1, 1, none⟩ = false := hpv2.frozen 1
          have v0 : w2.cell? ⟨b1, 0, none⟩ = some (.float .f64 (F z.1)) := hpv2.cell 0
          have v1 : w2.cell? ⟨b1, 1, none⟩ = some (.float .f64 (F z.2)) := hpv2.cell 1
          have l0 : w2.cell? ⟨b2, 0, none⟩ = some (.float .f64 (F p.1)) := hp2.cell 0
          have l1 : w2.cell? ⟨b2, 1, none⟩ = some (.float .f64 (F p.2)) := hp2.cell 1
          go_wp2_with fail
          go_roundw
          case rel =>
            have hs := HS.out
            rw [show emit (inB lx ly hx hy e) (cutP lx ly hx hy e) z p = [] by simp [emit, hip, hiz], List.append_nil] at hs
            exact ⟨k + 1, _, _, acc, p, by omega, by go_num, by rw [hip], rfl, hs, (inv2.set ⟨b1, 0, none⟩ hb1B hgi1 hbx1 hne _).set ⟨b1, 1, none⟩ hb1B hgi1 hbx1 hne _, (hpv2.set 0 _).set 1 _, hne, by have := hpv2.lt; simp; omega⟩
          case measure => simp [intOf]; omega
        · skip
          have e0 : w2.cell? ⟨w.heap.size, 0, none⟩ = some (.float .f64 (F lx)) := inv2.box.cell 0
          have e1 : w2.cell? ⟨w.heap.size, 1, none⟩ = some (.float .f64 (F ly)) := inv2.box.cell 1
          have e2 : w2.cell? ⟨w.heap.size, 2, none⟩ = some (.float .f64 (F hx)) := inv2.box.cell 2
          have e3 : w2.cell? ⟨w.heap.size, 3, none⟩ = some (.float .f64 (F hy)) := inv2.box.cell 3
          have v0 : w2.cell? ⟨b1, 0, none⟩ = some (.float .f64 (F z.1)) := hpv2.cell 0
          have v1 : w2.cell? ⟨b1, 1, none⟩ = some (.float .f64 (F z.2)) := hpv2.cell 1
          have l0 : w2.cell? ⟨b2, 0, none⟩ = some (.float .f64 (F p.1)) := hp2.cell 0
          have l1 : w2.cell? ⟨b2, 1, none⟩ = some (.float .f64 (F p.2)) := hp2.cell 1
          go_wp2_with fail
          refine (cut_any lx ly hx hy e z p he hl hh hzn hpn hzo (by rw [hip, hiz]; decide) _).mono ?_
          rintro r w3 ⟨rfl, hb3⟩
          obtain ⟨u, hu⟩ : ∃ u, u = cutP lx ly hx hy e z p := ⟨_, rfl⟩
          rw [← hu]
          have HU : Hid (u = cutP lx ly hx hy e z p) := hu
          have hpv3 := hpv2.below hb3 hpv2.lt
          have hp3 := hp2.below hb3 hp2.lt
          have inv3 := inv2.below hB hb3
          have hBw3 := Nat.le_trans hB inv3.bel.size
          clear e0 e1 e2 e3 v0 v1 l0 l1 hu hb3 inv2 hpv2 hp2
          go_wp2_with (at_builtin; refine wpList_push rfl _ _ 78 rfl 71 i0 _ 2 16 Try.underlying78 hi hz0 hz1 hz2 rfl (by decide) (by decide) w _ B _ acc.length _ rfl (inv3.out.alloc _) B (below_alloc inv3.bel _ hB) (Nat.le_refl B) (by have := inv3.bel.size; simp; omega) (by omega) [_, _] _ _ (by simp) 1 rfl rfl (by simp [Value.oneCell']) ?_)
          intro g4 cap4 w4 hown4 hbel4 hsz4 hgr4 hat4 hg4
          have hown4' : w4.ownsRow B 71 2 (.slice (some ⟨g4, 0, none⟩) (acc.length + 1) cap4) (acc.length + 1) ((acc ++ [u]).flatMap ptE) := by rw [List.flatMap_append]; simpa [ptE] using hown4
          have inv4 := (inv3.alloc hB (.cells #[.float .f64 (F u.1), .float .f64 (F u.2)] 71)).push hown4' hbel4 hgr4 (by simpa using hat4)
          have hpv4 := ((hpv3.alloc (.cells #[.float .f64 (F u.1), .float .f64 (F u.2)] 71)).alloc (.cells #[.float .f64 (F u.1), .float .f64 (F u.2)] 71)).grown hgr4 (fun e => hne e.symm)
          have hp4 := ((hp3.alloc (.cells #[.float .f64 (F u.1), .float .f64 (F u.2)] 71)).alloc (.cells #[.float .f64 (F u.1), .float .f64 (F u.2)] 71)).grown hgr4 (fun e => hne2 e.symm)
          have hne4 : (Value.slice (some ⟨g4, 0, none⟩) (acc.length + 1) cap4).ownBlock ≠ some b1 := by
            intro e
            have e : g4 = b1 := by simpa [Value.ownBlock] using e
            rcases hat4 with e1 | e1
            · exact hne (by rw [e1, e])
            · have := hpv3.lt; omega
          have hne24 : (Value.slice (some ⟨g4, 0, none⟩) (acc.length + 1) cap4).ownBlock ≠ some b2 := by
            intro e
            have e : g4 = b2 := by simpa [Value.ownBlock] using e
            rcases hat4 with e1 | e1
            · exact hne2 (by rw [e1, e])
            · have := hp3.lt; omega
          clear hown4 hown4' hgr4 hat4 hbel4 hsz4 hg4 inv3 hpv3 hp3
          have l0 : w4.cell? ⟨b2, 0, none⟩ = some (.float .f64 (F p.1)) := hp4.cell 0
          have l1 : w4.cell? ⟨b2, 1, none⟩ = some (.float .f64 (F p.2)) := hp4.cell 1
          have g0 : w4.frozen? ⟨b1, 0, none⟩ = false := hpv4.frozen 0
          have g1 : w4.frozen? ⟨b1, 1, none⟩ = false := hpv4.frozen 1
          have v0 : w4.cell? ⟨b1, 0, none⟩ = some (.float .f64 (F z.1)) := hpv4.cell 0
          have v1 : w4.cell? ⟨b1, 1, none⟩ = some (.float .f64 (F z.2)) := hpv4.cell 1
          go_wp2_with fail
          go_roundw
          case rel =>
            have hs := HS.out
            rw [show emit (inB lx ly hx hy e) (cutP lx ly hx hy e) z p = [u] by simp [emit, hip, hiz, HU.out]] at hs
            exact ⟨k + 1, _, _, acc ++ [u], p, by omega, by go_num, by rw [hip], by rw [List.length_append]; rfl, hs, by rw [List.length_append]; exact (inv4.set ⟨b1, 0, none⟩ hb1B hgi1 hbx1 hne4 _).set ⟨b1, 1, none⟩ hb1B hgi1 hbx1 hne4 _, (hpv4.set 0 _).set 1 _, by rw [List.length_append]; exact hne4, by have := hpv4.lt; simp; omega⟩
          case measure => simp [intOf]; omega
        · skip
          have e0 : w2.cell? ⟨w.heap.size, 0, none⟩ = some (.float .f64 (F lx)) := inv2.box.cell 0
          have e1 : w2.cell? ⟨w.heap.size, 1, none⟩ = some (.float .f64 (F ly)) := inv2.box.cell 1
          have e2 : w2.cell? ⟨w.heap.size, 2, none⟩ = some (.float .f64 (F hx)) := inv2.box.cell 2
          have e3 : w2.cell? ⟨w.heap.size, 3, none⟩ = some (.float .f64 (F hy)) := inv2.box.cell 3
          have v0 : w2.cell? ⟨b1, 0, none⟩ = some (.float .f64 (F z.1)) := hpv2.cell 0
          have v1 : w2.cell? ⟨b1, 1, none⟩ = some (.float .f64 (F z.2)) := hpv2.cell 1
          have l0 : w2.cell? ⟨b2, 0, none⟩ = some (.float .f64 (F p.1)) := hp2.cell 0
          have l1 : w2.cell? ⟨b2, 1, none⟩ = some (.float .f64 (F p.2)) := hp2.cell 1
          go_wp2_with fail
          refine (cut_any lx ly hx hy e z p he hl hh hzn hpn hzo (by rw [hip, hiz]; decide) _).mono ?_
          rintro r w3 ⟨rfl, hb3⟩
          obtain ⟨u, hu⟩ : ∃ u, u = cutP lx ly hx hy e z p := ⟨_, rfl⟩
          rw [← hu]
          have HU : Hid (u = cutP lx ly hx hy e z p) := hu
          have hpv3 := hpv2.below hb3 hpv2.lt
          have hp3 := hp2.below hb3 hp2.lt
          have inv3 := inv2.below hB hb3
          have hBw3 := Nat.le_trans hB inv3.bel.size
          clear e0 e1 e2 e3 v0 v1 l0 l1 hu hb3 inv2 hpv2 hp2
          go_wp2_with (at_builtin; refine wpList_push rfl _ _ 78 rfl 71 i0 _ 2 16 Try.underlying78 hi hz0 hz1 hz2 rfl (by decide) (by decide) w _ B _ acc.length _ rfl (inv3.out.alloc _) B (below_alloc inv3.bel _ hB) (Nat.le_refl B) (by have := inv3.bel.size; simp; omega) (by omega) [_, _] _ _ (by simp) 1 rfl rfl (by simp [Value.oneCell']) ?_)
          intro g4 cap4 w4 hown4 hbel4 hsz4 hgr4 hat4 hg4
          have hown4' : w4.ownsRow B 71 2 (.slice (some ⟨g4, 0, none⟩) (acc.length + 1) cap4) (acc.length + 1) ((acc ++ [u]).flatMap ptE) := by rw [List.flatMap_append]; simpa [ptE] using hown4
          have inv4 := (inv3.alloc hB (.cells #[.float .f64 (F u.1), .float .f64 (F u.2)] 71)).push hown4' hbel4 hgr4 (by simpa using hat4)
          have hpv4 := ((hpv3.alloc (.cells #[.float .f64 (F u.1), .float .f64 (F u.2)] 71)).alloc (.cells #[.float .f64 (F u.1), .float .f64 (F u.2)] 71)).grown hgr4 (fun e => hne e.symm)
          have hp4 := ((hp3.alloc (.cells #[.float .f64 (F u.1), .float .f64 (F u.2)] 71)).alloc (.cells #[.float .f64 (F u.1), .float .f64 (F u.2)] 71)).grown hgr4 (fun e => hne2 e.symm)
          have hne4 : (Value.slice (some ⟨g4, 0, none⟩) (acc.length + 1) cap4).ownBlock ≠ some b1 := by
            intro e
            have e : g4 = b1 := by simpa [Value.ownBlock] using e
            rcases hat4 with e1 | e1
            · exact hne (by rw [e1, e])
            · have := hpv3.lt; omega
          have hne24 : (Value.slice (some ⟨g4, 0, none⟩) (acc.length + 1) cap4).ownBlock ≠ some b2 := by
            intro e
            have e : g4 = b2 := by simpa [Value.ownBlock] using e
            rcases hat4 with e1 | e1
            · exact hne2 (by rw [e1, e])
            · have := hp3.lt; omega
          clear hown4 hown4' hgr4 hat4 hbel4 hsz4 hg4 inv3 hpv3 hp3
          have l0 : w4.cell? ⟨b2, 0, none⟩ = some (.float .f64 (F p.1)) := hp4.cell 0
          have l1 : w4.cell? ⟨b2, 1, none⟩ = some (.float .f64 (F p.2)) := hp4.cell 1
          go_wp2_with (at_builtin; refine wpList_push rfl _ _ 78 rfl 71 i0 _ 2 16 Try.underlying78 hi hz0 hz1 hz2 rfl (by decide) (by decide) w _ B _ (acc.length + 1) _ rfl (inv4.out) B inv4.bel (Nat.le_refl B) (by have := inv4.bel.size; simp; omega) (by omega) [_, _] _ _ (by simp) 1 rfl rfl (by simp [Value.oneCell']) ?_)
          intro g5 cap5 w5 hown5 hbel5 hsz5 hgr5 hat5 hg5
          have hown5' : w5.ownsRow B 71 2 (.slice (some ⟨g5, 0, none⟩) (acc.length + 2) cap5) (acc.length + 2) ((acc ++ [u, p]).flatMap ptE) := by simpa [ptE, List.flatMap_append] using hown5
          have inv5 := inv4.push hown5' hbel5 hgr5 hat5
          have hpv5 := (hpv4.alloc (.cells #[.float .f64 (F p.1), .float .f64 (F p.2)] 71)).grown hgr5 (fun e => hne4 e.symm)
          have hp5 := (hp4.alloc (.cells #[.float .f64 (F p.1), .float .f64 (F p.2)] 71)).grown hgr5 (fun e => hne24 e.symm)
          have hne5 : (Value.slice (some ⟨g5, 0, none⟩) (acc.length + 2) cap5).ownBlock ≠ some b1 := by
            intro e
            have e : g5 = b1 := by simpa [Value.ownBlock] using e
            rcases hat5 with e1 | e1
            · exact hne4 (by rw [e1, e])
            · have := hpv4.lt; omega
          clear hown5 hown5' hgr5 hat5 hbel5 hsz5 hg5 inv4 hpv4 hp4 l0 l1
          have l0 : w5.cell? ⟨b2, 0, none⟩ = some (.float .f64 (F p.1)) := hp5.cell 0
          have l1 : w5.cell? ⟨b2, 1, none⟩ = some (.float .f64 (F p.2)) := hp5.cell 1
          have g0 : w5.frozen? ⟨b1, 0, none⟩ = false := hpv5.frozen 0
          have g1 : w5.frozen? ⟨b1, 1, none⟩ = false := hpv5.frozen 1
          have v0 : w5.cell? ⟨b1, 0, none⟩ = some (.float .f64 (F z.1)) := hpv5.cell 0
          have v1 : w5.cell? ⟨b1, 1, none⟩ = some (.float .f64 (F z.2)) := hpv5.cell 1
          go_wp2_with fail
          go_roundw
          case rel =>
            have hs := HS.out
            rw [show emit (inB lx ly hx hy e) (cutP lx ly hx hy e) z p = [u, p] by simp [emit, hip, hiz, HU.out]] at hs
            exact ⟨k + 1, _, _, acc ++ [u, p], p, by omega, by go_num, by rw [hip], by rw [List.length_append]; rfl, hs, by rw [List.length_append]; exact (inv5.set ⟨b1, 0, none⟩ hb1B hgi1 hbx1 hne5 _).set ⟨b1, 1, none⟩ hb1B hgi1 hbx1 hne5 _, (hpv5.set 0 _).set 1 _, by rw [List.length_append]; exact hne5, by have := hpv5.lt; simp; omega⟩
          case measure => simp [intOf]; omega
        · have l0 : w2.cell? ⟨b2, 0, none⟩ = some (.float .f64 (F p.1)) := hp2.cell 0
          have l1 : w2.cell? ⟨b2, 1, none⟩ = some (.float .f64 (F p.2)) := hp2.cell 1
          go_wp2_with (at_builtin; refine wpList_push rfl _ _ 78 rfl 71 i0 _ 2 16 Try.underlying78 hi hz0 hz1 hz2 rfl (by decide) (by decide) w _ B _ acc.length _ rfl inv2.out B inv2.bel (Nat.le_refl B) (by have := inv2.bel.size; simp; omega) (by omega) [_, _] _ _ (by simp) 1 rfl rfl (by simp [Value.oneCell']) ?_)
          intro g5 cap5 w5 hown5 hbel5 hsz5 hgr5 hat5 hg5
          have hown5' : w5.ownsRow B 71 2 (.slice (some ⟨g5, 0, none⟩) (acc.length + 1) cap5) (acc.length + 1) ((acc ++ [p]).flatMap ptE) := by simpa [ptE, List.flatMap_append] using hown5
          have inv5 := inv2.push hown5' hbel5 hgr5 hat5
          have hpv5 := (hpv2.alloc (.cells #[.float .f64 (F p.1), .float .f64 (F p.2)] 71)).grown hgr5 (fun e => hne e.symm)
          have hp5 := (hp2.alloc (.cells #[.float .f64 (F p.1), .float .f64 (F p.2)] 71)).grown hgr5 (fun e => hne2 e.symm)
          have hne5 : (Value.slice (some ⟨g5, 0, none⟩) (acc.length + 1) cap5).ownBlock ≠ some b1 := by
            intro e
            have e : g5 = b1 := by simpa [Value.ownBlock] using e
            rcases hat5 with e1 | e1
            · exact hne (by rw [e1, e])
            · have := hpv2.lt; omega
          clear hown5 hown5' hgr5 hat5 hbel5 hsz5 hg5 inv2 hpv2 hp2 l0 l1
          have l0 : w5.cell? ⟨b2, 0, none⟩ = some (.float .f64 (F p.1)) := hp5.cell 0
          have l1 : w5.cell? ⟨b2, 1, none⟩ = some (.float .f64 (F p.2)) := hp5.cell 1
          have g0 : w5.frozen? ⟨b1, 0, none⟩ = false := hpv5.frozen 0
          have g1 : w5.frozen? ⟨b1, 1, none⟩ = false := hpv5.frozen 1
          have v0 : w5.cell? ⟨b1, 0, none⟩ = some (.float .f64 (F z.1)) := hpv5.cell 0
          have v1 : w5.cell? ⟨b1, 1, none⟩ = some (.float .f64 (F z.2)) := hpv5.cell 1
          go_wp2_with fail
          go_roundw
          case rel =>
            have hs := HS.out
            rw [show emit (inB lx ly hx hy e) (cutP lx ly hx hy e) z p = [p] by simp [emit, hip, hiz]] at hs
            exact ⟨k + 1, _, _, acc ++ [p], p, by omega, by go_num, by rw [hip], by rw [List.length_append]; rfl, hs, by rw [List.length_append]; exact (inv5.set ⟨b1, 0, none⟩ hb1B hgi1 hbx1 hne5 _).set ⟨b1, 1, none⟩ hb1B hgi1 hbx1 hne5 _, (hpv5.set 0 _).set 1 _, by rw [List.length_append]; exact hne5, by have := hpv5.lt; simp; omega⟩
          case measure => simp [intOf]; omega
      · obtain rfl : k = rs.length := by omega
        have HA2 : Hid (acc = passL lx ly hx hy e rs) := by
          have := HA.out.1
          rw [List.take_length, HQ.out, ← last_is rpos (0, 0)] at this
          exact this
        clear HA hpv hne hb1
        have hal : acc.length ≤ 2 * rs.length := by rw [HA2.out]; exact clip_len _ _ _ _
        by_cases haz : acc = []
        · subst haz
          have h0 : sidesL lx ly hx hy ps = [] := by
            obtain ⟨m, rfl⟩ : ∃ m, mm = m + 1 := ⟨mm - 1, by omega⟩
            have ht := HT.out
            rw [todo, ← HE.out, ← HA2.out, todo_nil] at ht
            exact ht.symm
          have h1 : Hid (ringL lx ly hx hy ps = []) := by show _ = _; unfold ringL; rw [h0]; rfl
          clear h0
          go_wp2
          go_ret
          rw [h1.out]
          exact ⟨_, _, rfl, World.ownsRow_nil _ _ _ _, inv.bel, inv.pas, by simp [Value.ownBlock]⟩
        · have hap : 0 < acc.length := List.length_pos_iff.2 haz
          obtain ⟨ga, hga, _⟩ := pts_read inv.out
          obtain ⟨rfl, _, _⟩ := hga hap
          clear hga
          have hpf := pass_facts (lx := lx) (ly := ly) (hx := hx) (hy := hy) he rs rn ro
          rw [← HA2.out] at hpf
          have he0 : 0 ≤ e := by rcases he with h | h | h | h <;> omega
          go_wp2
          go_roundg (mm - 1)
          case rel =>
            obtain ⟨m, rfl⟩ : ∃ m, mm = m + 1 := ⟨mm - 1, by omega⟩
            have ht := HT.out
            rw [todo, ← HE.out, ← HA2.out] at ht
            refine ⟨ga, capo', acc, some ⟨gi, 0, none⟩, rs.length, capi, rs.flatMap ptE, by omega, by rw [HE.out, edge_next (by omega)]; rfl, rfl, rfl, inv.swap, hap, ?_, hpf.2.1, hpf.1, ht⟩
            show acc.length * 2 ^ m ≤ 32000
            rw [Nat.pow_succ, Nat.mul_comm (2 ^ m) 2, ← Nat.mul_assoc] at rlen
            exact Nat.le_trans (Nat.mul_le_mul_right _ (by omega)) rlen
          case measure => omega
end Go.Proofs.Ytlakfamodfgmcaa
