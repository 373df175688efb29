/- A polygon, clipped. -/
import Derived.Test.YtlakfamodfgmcaaRm
import Derived.Test.YtlakfamodfgmcaaRi
import Derived.Deep.RegionHeld3
import Derived.StillTailTactics
namespace Go.Proofs.Ytlakfamodfgmcaa
open Go.RowKit

/-- What is left of the inner rings. -/
def innersL (lx ly hx hy : Int) (ls : List (List (Int × Int))) : List (List (Int × Int)) := (ls.map (ringL lx ly hx hy)).filter fun l => !l.isEmpty

/-- A polygon, clipped: none, if the outer ring is gone. -/
def polyL (lx ly hx hy : Int) : List (List (Int × Int)) → List (List (Int × Int))
  | [] => []
  | r :: rs => if ringL lx ly hx hy r = [] then [] else ringL lx ly hx hy r :: innersL lx ly hx hy rs

theorem inners_snoc (lx ly hx hy : Int) (ls : List (List (Int × Int))) (r : List (Int × Int)) : innersL lx ly hx hy (ls ++ [r]) = innersL lx ly hx hy ls ++ (if ringL lx ly hx hy r = [] then [] else [ringL lx ly hx hy r]) := by
  unfold innersL
  rw [List.map_append, List.filter_append]
  congr 1
  by_cases h : ringL lx ly hx hy r = []
  · rw [if_pos h]; simp [h]
  · rw [if_neg h]; simp [h]

/-- A row is as it was when a call has kept apart from it. -/
theorem own_apart {w w' : World} {B : Nat} {e : TypeId} {s n : Nat} {u v r : Value} {zs : List Value} (h : w.ownsRow B e s v n zs) (ha : Apart w w' u r) (hne : ∀ g, v.ownBlock = some g → u.ownBlock ≠ some g) : w'.ownsRow B e s v n zs := by
  refine ⟨h.1, ?_⟩
  rcases h.2 with hn | ⟨g, cap, cur, hv, hb', hgg, rest⟩
  · exact .inl hn
  · have hlt : g < w.heap.size := by
      rcases Nat.lt_or_ge g w.heap.size with hlt | hge
      · exact hlt
      · rw [Array.getElem?_eq_none hge] at hgg; cases hgg
    refine .inr ⟨g, cap, cur, hv, hb', ?_, rest⟩
    rw [ha.1 g hlt (hne g (by rw [hv]; rfl))]
    exact hgg

theorem RowAt.apart {w w' : World} {e : TypeId} {enc : Int × Int → List Value} {u v r : Value} {ps : List (Int × Int)} (h : RowAt w e enc v ps) (ha : Apart w w' u r) (hne : ∀ g, v.ownBlock = some g → u.ownBlock ≠ some g) : RowAt w' e enc v ps := by
  obtain ⟨ao, cap, rfl, ho⟩ := h; exact ⟨ao, cap, rfl, own_apart ho ha hne⟩

theorem own_base {w : World} {B : Nat} {e : TypeId} {s n : Nat} {v : Value} {zs : List Value} (h : w.ownsRow 0 e s v n zs) (hb : ∀ g, v.ownBlock = some g → B ≤ g) : w.ownsRow B e s v n zs := by
  refine ⟨h.1, ?_⟩
  rcases h.2 with hn | ⟨g, cap, cur, hv, hb', hgg, rest⟩
  · exact .inl hn
  · exact .inr ⟨g, cap, cur, hv, hb g (by rw [hv]; rfl), hgg, rest⟩

theorem blk_apart {w w' : World} {b : Nat} {cs : Array Value} {e : TypeId} {u r : Value} (h : Blk w b cs e) (ha : Apart w w' u r) (hne : u.ownBlock ≠ some b) : Blk w' b cs e := (ha.1 b h.lt hne).trans h

theorem row_block {w : World} {e : TypeId} {enc : Int × Int → List Value} {v : Value} {ps : List (Int × Int)} (h : RowAt w e enc v ps) : ∀ g, v.ownBlock = some g → g < w.heap.size ∧ ∃ cur : Array Value, w.heap[g]? = some (.cells cur e (0, 0)) := by
  obtain ⟨ao, cap, hv, ho⟩ := h
  intro g hg
  rw [hv] at hg
  exact ⟨(ho.lt g hg).2, own_block ho hg⟩

/-- Blocks of two types are two. -/
theorem type_ne {w : World} {g g' : Nat} {e e' : TypeId} {c c' : Array Value} (h : w.heap[g]? = some (.cells c e (0, 0))) (h' : w.heap[g']? = some (.cells c' e' (0, 0))) (hne : e ≠ e') : g ≠ g' := by
  intro e; subst e
  rw [h] at h'
  simp at h'
  exact hne h'.2

/-- What is known between two rings. -/
structure PInv (w wr : World) (B : Nat) (lx ly hx hy : Int) (xs : List (Value × List (Int × Int))) (g k : Nat) (v : Value) (ys : List (Value × List (Int × Int))) : Prop where
  out : wr.ownsRow (w.heap.size + 1) 78 1 v ys.length (ys.map Prod.fst)
  rows : ∀ y ∈ ys, RowAt wr 71 ptE y.1 y.2
  rest : ∀ j (hj : j < xs.length), k ≤ j → RowAt wr 71 ptE xs[j].1 xs[j].2
  two : ∀ y ∈ ys, ∀ j (hj : j < xs.length), k ≤ j → ∀ b, y.1.ownBlock = some b → xs[j].1.ownBlock ≠ some b
  outer : wr.heap[g]? = w.heap[g]?
  box : Blk wr w.heap.size #[.float .f64 (F lx), .float .f64 (F ly), .float .f64 (F hx), .float .f64 (F hy)] 73
  bel : Below B w wr

theorem RowAt.own {w : World} {e : TypeId} {enc : Int × Int → List Value} {v : Value} {ps : List (Int × Int)} {aq : Option Addr} {cq : Nat} (h : RowAt w e enc v ps) (hv : v = .slice aq ps.length cq) : w.ownsRow 0 e 2 (.slice aq ps.length cq) ps.length (ps.flatMap enc) := by
  obtain ⟨ao, cap, h1, h2⟩ := h
  rw [hv] at h1
  cases h1
  exact h2

theorem own_none {w : World} {B : Nat} {e : TypeId} {s n cap : Nat} {zs : List Value} (h : w.ownsRow B e s (.slice none n cap) n zs) : cap = 0 := by
  rcases h.2 with ⟨hv, _⟩ | ⟨g, cap', cur, hv, _⟩
  · injection hv
  · injection hv with h1; cases h1

theorem ring_eql_nil (w : World) : (binOp .eql 78 (.slice none 0 0) (.slice none 0 0)).run Try.prog w = .ok (.bool true) w := by kernel_rfl
theorem ring_eql_some (w : World) (a : Addr) (n c : Nat) : (binOp .eql 78 (.slice (some a) n c) (.slice none 0 0)).run Try.prog w = .ok (.bool false) w := by kernel_rfl
theorem ring_neq_nil (w : World) : (binOp .neq 78 (.slice none 0 0) (.slice none 0 0)).run Try.prog w = .ok (.bool false) w := by kernel_rfl
theorem ring_neq_some (w : World) (a : Addr) (n c : Nat) : (binOp .neq 78 (.slice (some a) n c) (.slice none 0 0)).run Try.prog w = .ok (.bool true) w := by kernel_rfl

section
variable {w wr w2 : World} {B : Nat} {lx ly hx hy : Int} {xs ys : List (Value × List (Int × Int))} {g k : Nat} {v r : Value}

theorem PInv.drew (h : PInv w wr B lx ly hx hy xs g k v ys) : PInv w wr.drew B lx ly hx hy xs g k v ys :=
  ⟨h.out.drew, fun y hy => (h.rows y hy).drew, fun j hj hk => (h.rest j hj hk).drew, h.two, h.outer, h.box.drew, h.bel.drew⟩

/-- A ring is clipped. -/
theorem PInv.call (h : PInv w wr B lx ly hx hy xs g k v ys) (hk : k < xs.length) (hfr : Fresh B w.heap.size xs) {cur : Array Value} (hg : w.heap[g]? = some (.cells cur 78 (0, 0))) (ha : Apart wr w2 xs[k].1 r) (hb : Below B wr w2) :
    PInv w w2 B lx ly hx hy xs g (k + 1) v ys ∧ ∀ j (hj : j < xs.length), k + 1 ≤ j → ∀ b, r.ownBlock = some b → xs[j].1.ownBlock ≠ some b := by
  have hgs : g < w.heap.size := by
    rcases Nat.lt_or_ge g w.heap.size with hlt | hge
    · exact hlt
    · rw [Array.getElem?_eq_none hge] at hg; cases hg
  have hx1 : ∀ b, xs[k].1.ownBlock = some b → B ≤ b ∧ b < w.heap.size := hfr.1 _ (List.getElem_mem hk)
  have hpw : ∀ j (hj : j < xs.length), k + 1 ≤ j → ∀ b, xs[k].1.ownBlock = some b → xs[j].1.ownBlock ≠ some b := fun j hj hkj => List.pairwise_iff_getElem.1 hfr.2 k j hk hj (by omega)
  have hsz := h.bel.size
  refine ⟨⟨own_apart h.out ha fun b hb hx => ?_, fun y hy => (h.rows y hy).apart ha fun b hb => h.two y hy k hk (Nat.le_refl _) b hb, fun j hj hkj => (h.rest j hj (by omega)).apart ha fun b hb hx => hpw j hj hkj b hx hb,
    fun y hy j hj hkj => h.two y hy j hj (by omega), ?_, blk_apart h.box ha fun hx => ?_, h.bel.trans hb⟩, fun j hj hkj b hr hx => ?_⟩
  · have h1 := (h.out.lt b hb).1
    have h2 := hx1 b hx
    omega
  · rw [ha.1 g (by omega) fun hx => ?_]
    · exact h.outer
    · obtain ⟨_, cur', hc⟩ := row_block (h.rest k hk (Nat.le_refl _)) g hx
      exact type_ne (h.outer.trans hg) hc (by decide) rfl
  · have := hx1 _ hx; omega
  · rcases ha.2 b hr with h1 | h1
    · exact hpw j hj hkj b h1 hx
    · have := hfr.1 _ (List.getElem_mem hj) b hx; omega

/-- What is left of a ring is kept. -/
theorem PInv.push (h : PInv w wr B lx ly hx hy xs g k v ys) {qs : List (Int × Int)} (hg : g < w.heap.size) (hr : RowAt wr 71 ptE r qs) (h2 : ∀ j (hj : j < xs.length), k ≤ j → ∀ b, r.ownBlock = some b → xs[j].1.ownBlock ≠ some b) {o : Obj} {v' : Value}
    (hown : w2.ownsRow (w.heap.size + 1) 78 1 v' (ys.length + 1) (ys.map Prod.fst ++ [r])) (hb : Below B w w2) (hgr : (wr.alloc o).grownBy w2 v.ownBlock) :
    PInv w w2 B lx ly hx hy xs g k v' (ys ++ [(r, qs)]) := by
  have hsz := h.bel.size
  refine ⟨by rw [List.length_append, List.map_append]; exact hown, fun y hy => ?_, fun j hj hk => ((h.rest j hj hk).alloc o).grown (h.out.alloc o) (by decide) hgr, fun y hy => ?_, ?_, (h.box.alloc o).grown hgr fun e => ?_, hb⟩
  · rcases List.mem_append.1 hy with hy | hy
    · exact ((h.rows y hy).alloc o).grown (h.out.alloc o) (by decide) hgr
    · rw [List.mem_singleton.1 hy]
      exact (hr.alloc o).grown (h.out.alloc o) (by decide) hgr
  · rcases List.mem_append.1 hy with hy | hy
    · exact h.two y hy
    · rw [List.mem_singleton.1 hy]; exact h2
  · rw [hgr.block g (by simp; omega) fun e => ?_, Below.heap_alloc wr o g (by omega)]
    · exact h.outer
    · have := (h.out.lt g e.symm).1; omega
  · have := (h.out.lt _ e.symm).1; omega
end

set_option maxRecDepth 100000 in
set_option maxHeartbeats 2000000 in
theorem clipPoly_any (lx ly hx hy : Int) (hl : Near (lx, ly)) (hh : Near (hx, hy)) (h1 : lx ≤ hx) (h2 : ly ≤ hy) (v : Value) (xs : List (Value × List (Int × Int))) (B : Nat) (w : World) (hB : B ≤ w.heap.size) (hk : ∀ x ∈ xs, RingOk x.2) (hx0 : 0 < xs.length) (hxl : xs.length ≤ 1000)
    (hfr : Fresh B w.heap.size xs) (h : RowsAt w B 78 71 ptE v xs) :
    Calls Try.prog 47 #[.agg #[.float .f64 (F lx), .float .f64 (F ly), .float .f64 (F hx), .float .f64 (F hy)], v] w
      fun e w' => ∃ v' ys, e = .returned v' ∧ ys.map Prod.snd = polyL lx ly hx hy (xs.map Prod.snd) ∧ RowsAt w' 0 78 71 ptE v' ys ∧ Below B w w' := by
  obtain ⟨i0, hi, hz0, hz1, hz2⟩ := info_parts Try.info78
  have hgt : ∀ g, v.ownBlock = some g → ∃ cur : Array Value, w.heap[g]? = some (.cells cur 78 (0, 0)) := fun g hg => by
    obtain ⟨ao, cap, hv, ho, _⟩ := h
    rw [hv] at hg
    exact own_block ho hg
  have hrest : ∀ j (hj : j < xs.length), RowAt w 71 ptE xs[j].1 xs[j].2 := fun j hj => by
    obtain ⟨ao, cap, hv, ho, hx⟩ := h
    exact hx _ (List.getElem_mem hj)
  obtain ⟨ao, cap, g, rfl, hg, hc⟩ := h.read
  obtain ⟨rfl, hgs, hgB⟩ := hg hx0
  obtain ⟨cur, hcur⟩ := hgt g rfl
  clear hgt h hg
  have inv0 : PInv w (w.alloc (.cells #[.float .f64 (F lx), .float .f64 (F ly), .float .f64 (F hx), .float .f64 (F hy)] 73)) B lx ly hx hy xs g 0 (.slice none 0 0) [] :=
    ⟨World.ownsRow_nil _ _ _ _, fun y hy => by simp at hy, fun j hj _ => (hrest j hj).alloc _, fun y hy => by simp at hy, Below.heap_alloc _ _ _ hgs, Blk.new _ _ _, (Below.refl _ _).alloc hB _⟩
  have hcell : ∀ (W : World), W.heap[g]? = w.heap[g]? → ∀ k (hk : k < xs.length), ∃ aq cq, xs[k].1 = .slice aq xs[k].2.length cq ∧ W.cell? ⟨g, k, none⟩ = some (.slice aq xs[k].2.length cq) := fun W hW k hk => by
    obtain ⟨aq, cq, hv, c0, _⟩ := hc k hk
    exact ⟨aq, cq, hv, (World.cell?_of_block hW).trans c0⟩
  clear hc hrest
  go_enter Try.func47, Try.ntmps47
  go_upto_region 3 with fail
  obtain ⟨wr, hwr⟩ : ∃ wr, wr = w.alloc (.cells #[.float .f64 (F lx), .float .f64 (F ly), .float .f64 (F hx), .float .f64 (F hy)] 73) := ⟨_, rfl⟩
  rw [← hwr] at inv0 ⊢
  clear hwr
  obtain ⟨aq, cq, hv, d0⟩ := hcell wr inv0.outer 0 hx0
  have hro := (inv0.drew.rest 0 hx0 (Nat.le_refl _)).own hv
  have hrk := hk _ (List.getElem_mem hx0)
  have hab : ∀ b, xs[0].1.ownBlock = some b → B ≤ b := fun b hb => (hfr.1 _ (List.getElem_mem hx0) b hb).1
  have hcall := fun (w2 : World) r (ha : Apart wr.drew w2 xs[0].1 r) (hb : Below B wr.drew w2) => inv0.drew.call hx0 hfr hcur ha hb
  rw [hv] at hab hcall
  have hro := own_base hro hab
  have HX : Hid (polyL lx ly hx hy (xs.map Prod.snd) = if ringL lx ly hx hy xs[0].2 = [] then [] else ringL lx ly hx hy xs[0].2 :: innersL lx ly hx hy ((xs.drop 1).map Prod.snd)) := by
    cases xs with
    | nil => simp at hx0
    | cons x xs => rfl
  obtain ⟨ps, hp⟩ : ∃ ps, ps = xs[0].2 := ⟨_, rfl⟩
  rw [← hp] at d0 hro hrk hcall HX
  have e0 : wr.cell? ⟨w.heap.size, 0, none⟩ = some (.float .f64 (F lx)) := inv0.box.cell 0
  have e1 : wr.cell? ⟨w.heap.size, 1, none⟩ = some (.float .f64 (F ly)) := inv0.box.cell 1
  have e2 : wr.cell? ⟨w.heap.size, 2, none⟩ = some (.float .f64 (F hx)) := inv0.box.cell 2
  have e3 : wr.cell? ⟨w.heap.size, 3, none⟩ = some (.float .f64 (F hy)) := inv0.box.cell 3
  have hBw : B ≤ wr.drew.heap.size := Nat.le_trans hB inv0.drew.bel.size
  have hclip := clipRing_any lx ly hx hy hl hh h1 h2 aq cq ps B wr.drew hBw hrk hro
  clear hp hv hab hro hrk inv0 hBw
  obtain ⟨qs, hq⟩ : ∃ qs, qs = ringL lx ly hx hy ps := ⟨_, rfl⟩
  rw [← hq] at hclip HX
  clear hq
  go_still_tail 4, (by kernel_rfl)
  repeat still_step
  change wpList _ _ _ _ _ wr.drew
  obtain ⟨w2, hw2⟩ : ∃ w2, w2 = wr.drew := ⟨_, rfl⟩
  rw [← hw2] at hclip hcall ⊢
  clear e0 e1 e2 e3 d0 hw2
  go_wp2_with fail
  refine hclip.mono ?_
  rintro e w3 ⟨a3, c3, rfl, hnil, ho3, hb3, hap3⟩
  obtain ⟨inv1, htwo⟩ := hcall w3 _ hap3 hb3
  clear hclip hcall hb3 hap3
  by_cases hz : qs = []
  · obtain rfl := hnil hz
    obtain rfl := own_none ho3
    have HY : Hid (polyL lx ly hx hy (xs.map Prod.snd) = []) := by show _ = _; rw [HX.out, if_pos hz]
    subst hz
    have he := ring_eql_nil
    go_wp2_with fail
    go_ret
    exact ⟨.slice none 0 0, [], rfl, HY.out.symm, ⟨none, 0, rfl, World.ownsRow_nil _ _ _ _, fun x hx => by simp at hx⟩, inv1.bel⟩
  · have HY : Hid (polyL lx ly hx hy (xs.map Prod.snd) = qs :: innersL lx ly hx hy ((xs.drop 1).map Prod.snd)) := by show _ = _; rw [HX.out, if_neg hz]
    have hqp : 0 < qs.length := List.length_pos_iff.2 hz
    obtain ⟨g3, hg3, _⟩ := pts_read ho3
    obtain ⟨rfl, _, _⟩ := hg3 hqp
    clear HX hnil hg3
    have hr1 : RowAt w3 71 ptE (.slice (some ⟨g3, 0, none⟩) qs.length c3) qs := ⟨_, _, rfl, own_mono ho3 (Nat.zero_le _)⟩
    have hw3 : w.heap.size + 1 ≤ w3.heap.size := inv1.box.lt
    have inv2 : PInv w (w3.alloc (.cells #[.slice (some ⟨g3, 0, none⟩) qs.length c3] 78)) B lx ly hx hy xs g 1 (.slice (some ⟨w3.heap.size, 0, none⟩) 1 1) [(.slice (some ⟨g3, 0, none⟩) qs.length c3, qs)] :=
      ⟨own_new w3 _ hw3 78 1 1 [_] rfl (by omega), fun y hy => by rw [List.mem_singleton.1 hy]; exact hr1.alloc _, fun j hj hk => (inv1.rest j hj hk).alloc _, fun y hy => by rw [List.mem_singleton.1 hy]; exact htwo,
        (Below.heap_alloc _ _ _ (by omega)).trans inv1.outer, inv1.box.alloc _, inv1.bel.alloc (Nat.le_trans hB inv1.bel.size) _⟩
    clear inv1 htwo ho3 hr1
    have he := ring_eql_some
    go_wp2_with fail
    go_loopw [6, 7] (fun v i wr => ∃ (k : Nat) (ao' : Option Addr) (cap' : Nat) (ys : List (Value × List (Int × Int))), 1 ≤ k ∧ k ≤ xs.length ∧ i = .int .i64 k ∧ v = .slice ao' ys.length cap' ∧ ys.length ≤ k ∧
        Hid (ys.map Prod.snd = qs :: innersL lx ly hx hy (((xs.take k).drop 1).map Prod.snd)) ∧ PInv w wr B lx ly hx hy xs g k v ys)
      (fun _ i _ => xs.length - (intOf i).toNat)
    case atStart => exact ⟨1, _, _, _, Nat.le_refl _, hx0, rfl, rfl, by simp, by cases xs <;> rfl, inv2⟩
    case round =>
      obtain ⟨k, ao', cap', ys, hk1, hkx, rfl, rfl, hyk, HA, inv⟩ := hrel
      clear inv2 he
      by_cases hlt : k < xs.length
      · have hyl : ys.length ≤ 1000 := by omega
        obtain ⟨aq, cq, hv, d0⟩ := hcell wr inv.outer k hlt
        have hro := (inv.drew.rest k hlt (Nat.le_refl _)).own hv
        have hrk := hk _ (List.getElem_mem hlt)
        have hab : ∀ b, xs[k].1.ownBlock = some b → B ≤ b := fun b hb => (hfr.1 _ (List.getElem_mem hlt) b hb).1
        have hcall := fun (w2 : World) r (ha : Apart wr.drew w2 xs[k].1 r) (hb : Below B wr.drew w2) => inv.drew.call hlt hfr hcur ha hb
        rw [hv] at hab hcall
        have hro := own_base hro hab
        have HX : Hid (innersL lx ly hx hy (((xs.take (k + 1)).drop 1).map Prod.snd) = innersL lx ly hx hy (((xs.take k).drop 1).map Prod.snd) ++ (if ringL lx ly hx hy xs[k].2 = [] then [] else [ringL lx ly hx hy xs[k].2])) := by
          show _ = _
          rw [List.take_succ_eq_append_getElem hlt, List.drop_append_of_le_length (by rw [List.length_take]; omega), List.map_append]
          exact inners_snoc lx ly hx hy _ _
        obtain ⟨ps, hp⟩ : ∃ ps, ps = xs[k].2 := ⟨_, rfl⟩
        rw [← hp] at d0 hro hrk hcall HX
        have e0 : wr.cell? ⟨w.heap.size, 0, none⟩ = some (.float .f64 (F lx)) := inv.box.cell 0
        have e1 : wr.cell? ⟨w.heap.size, 1, none⟩ = some (.float .f64 (F ly)) := inv.box.cell 1
        have e2 : wr.cell? ⟨w.heap.size, 2, none⟩ = some (.float .f64 (F hx)) := inv.box.cell 2
        have e3 : wr.cell? ⟨w.heap.size, 3, none⟩ = some (.float .f64 (F hy)) := inv.box.cell 3
        have hBw : B ≤ wr.drew.heap.size := Nat.le_trans hB inv.drew.bel.size
        have hclip := clipRing_any lx ly hx hy hl hh h1 h2 aq cq ps B wr.drew hBw hrk hro
        clear hp hv hab hro hrk inv hBw
        obtain ⟨us, hu⟩ : ∃ us, us = ringL lx ly hx hy ps := ⟨_, rfl⟩
        rw [← hu] at hclip HX
        clear hu
        go_upto_region 10 with fail
        go_still_tail 5, (by kernel_rfl)
        repeat still_step
        change wpList _ _ _ _ _ wr.drew
        obtain ⟨w2, hw2⟩ : ∃ w2, w2 = wr.drew := ⟨_, rfl⟩
        rw [← hw2] at hclip hcall ⊢
        clear e0 e1 e2 e3 d0 hw2
        go_wp2_with fail
        refine hclip.mono ?_
        rintro e w3 ⟨a3, c3, rfl, hnil, ho3, hb3, hap3⟩
        obtain ⟨inv1, htwo⟩ := hcall w3 _ hap3 hb3
        clear hclip hcall hb3 hap3
        by_cases hz : us = []
        · obtain rfl := hnil hz
          obtain rfl := own_none ho3
          have HZ : Hid (innersL lx ly hx hy (((xs.take (k + 1)).drop 1).map Prod.snd) = innersL lx ly hx hy (((xs.take k).drop 1).map Prod.snd)) := by show _ = _; rw [HX.out, if_pos hz, List.append_nil]
          subst hz
          have he := ring_neq_nil
          go_wp2_with fail
          go_roundw
          case rel => exact ⟨k + 1, _, _, ys, by omega, by omega, by go_num, rfl, by omega, by rw [HZ.out]; exact HA, inv1⟩
          case measure => simp [intOf]; omega
        · have hup : 0 < us.length := List.length_pos_iff.2 hz
          obtain ⟨g5, hg5, _⟩ := pts_read ho3
          obtain ⟨rfl, _, _⟩ := hg5 hup
          have HZ : Hid ((ys ++ [(Value.slice (some ⟨g5, 0, none⟩) us.length c3, us)]).map Prod.snd = qs :: innersL lx ly hx hy (((xs.take (k + 1)).drop 1).map Prod.snd)) := by
            show _ = _; rw [HX.out, if_neg hz, List.map_append, HA.out]; rfl
          have hr1 : RowAt w3 71 ptE (.slice (some ⟨g5, 0, none⟩) us.length c3) us := ⟨_, _, rfl, own_mono ho3 (Nat.zero_le _)⟩
          have hw3 : w.heap.size + 1 ≤ w3.heap.size := inv1.box.lt
          have he := ring_neq_some
          clear HX HA hnil hg5 ho3 hz
          go_wp2_with (at_builtin; refine wpList_push rfl _ _ 91 rfl 78 i0 _ 1 24 Try.underlying91 hi hz0 hz1 hz2 rfl (by decide) (by decide) w _ (w.heap.size + 1) _ ys.length _ rfl inv1.out B inv1.bel (by omega) (by omega) (by omega) [_] _ _ (by simp) 1 rfl rfl (by simp [Value.oneCell']) ?_)
          intro g' cap'' w4 hown4 hbel4 _ hgr _ _
          have inv4 := inv1.push hgs hr1 htwo hown4 hbel4 hgr
          clear inv1 htwo hown4 hbel4 hgr hr1 he
          go_wp2_with fail
          go_roundw
          case rel => exact ⟨k + 1, _, _, _, by omega, by omega, by go_num, by rw [List.length_append]; rfl, by rw [List.length_append]; simp; omega, HZ, inv4⟩
          case measure => simp [intOf]; omega
      · obtain rfl : k = xs.length := by omega
        have hA := HA.out
        rw [List.take_length] at hA
        have HB : Hid (ys.map Prod.snd = polyL lx ly hx hy (xs.map Prod.snd)) := hA.trans HY.out.symm
        clear hA HA
        go_wp2_with fail
        go_ret
        exact ⟨.slice ao' ys.length cap', ys, rfl, HB.out, ⟨ao', cap', rfl, own_mono inv.out (Nat.zero_le _), inv.rows⟩, inv.bel⟩

theorem poly_mem {lx ly hx hy : Int} {ls : List (List (Int × Int))} {r : List (Int × Int)} (h : r ∈ polyL lx ly hx hy ls) : ∃ l ∈ ls, r = ringL lx ly hx hy l := by
  cases ls with
  | nil => simp [polyL] at h
  | cons l ls =>
    rw [polyL] at h
    split at h
    · simp at h
    · rcases List.mem_cons.1 h with h | h
      · exact ⟨l, by simp, h⟩
      · unfold innersL at h
        obtain ⟨h, _⟩ := List.mem_filter.1 h
        obtain ⟨m, hm, rfl⟩ := List.mem_map.1 h
        exact ⟨m, by simp [hm], rfl⟩

theorem poly_len (lx ly hx hy : Int) (ls : List (List (Int × Int))) : (polyL lx ly hx hy ls).length ≤ ls.length := by
  cases ls with
  | nil => simp [polyL]
  | cons l ls =>
    rw [polyL]
    split
    · simp
    · have := List.length_filter_le (fun l : List (Int × Int) => !l.isEmpty) (ls.map (ringL lx ly hx hy))
      rw [List.length_map] at this
      simp only [List.length_cons, innersL]
      omega

set_option maxRecDepth 100000 in
set_option maxHeartbeats 1000000 in
theorem implPoly_any (lx ly hx hy : Int) (hl : Near (lx, ly)) (hh : Near (hx, hy)) (h1 : lx ≤ hx) (h2 : ly ≤ hy) (v : Value) (xs : List (Value × List (Int × Int))) (B : Nat) (w : World) (hk : ∀ x ∈ xs, RingOk x.2) (hx0 : 0 < xs.length) (hxl : xs.length ≤ 1000)
    (h : RowsAt w B 34 38 ptE v xs) :
    Calls Try.prog 29 #[.agg #[.float .f64 (F lx), .float .f64 (F ly), .float .f64 (F hx), .float .f64 (F hy)], v] w
      fun e w' => ∃ v' ys, e = .returned v' ∧ ys.map Prod.snd = polyL lx ly hx hy (xs.map Prod.snd) ∧ RowsAt w' w.heap.size 34 38 ptE v' ys ∧ Below w.heap.size w w' := by
  have hlp : ∀ x ∈ xs, x.2.length ≤ 100000000 := fun x hx => by have := (hk x hx).len; omega
  go_enter Try.func29, Try.ntmps29
  go_wp2_with fail
  refine (bound_any lx ly hx hy _).mono ?_
  rintro e w1 ⟨rfl, hb1⟩
  have hr1 := (h.alloc (.cells #[.float .f64 (F lx), .float .f64 (F ly), .float .f64 (F hx), .float .f64 (F hy)] 40)).below hb1 (Nat.le_refl _)
  have hB1 : Below w.heap.size w w1 := ((Below.refl _ _).alloc (Nat.le_refl _) _).trans (hb1.mono (by simp))
  clear hb1 h
  go_wp2_with fail
  refine (polyIn_any v xs B _ hlp (by omega) hr1).mono ?_
  rintro e w2 ⟨v2, y2, rfl, hy2, hr2, hb2, hf2⟩
  have hB2 := hB1.trans (hb2.mono hB1.size)
  have hs2 := hb2.size
  have hk2 : ∀ y ∈ y2, RingOk y.2 := fun y hy => by
    have hm : y.2 ∈ xs.map Prod.snd := by rw [← hy2]; exact List.mem_map_of_mem hy
    obtain ⟨x, hx, e⟩ := List.mem_map.1 hm
    rw [← e]; exact hk x hx
  have hl2 : y2.length = xs.length := by rw [← List.length_map (f := Prod.snd), hy2, List.length_map]
  have hl20 : 0 < y2.length := by omega
  have hl21 : y2.length ≤ 1000 := by omega
  clear hr1 hb2 hl2
  go_wp2_with fail
  refine (clipPoly_any lx ly hx hy hl hh h1 h2 v2 y2 _ _ hs2 hk2 hl20 hl21 hf2 hr2).mono ?_
  rintro e w3 ⟨v3, y3, rfl, hy3, hr3, hb3⟩
  have hB3 := hB2.trans (hb3.mono hB1.size)
  have hl3 : ∀ y ∈ y3, y.2.length ≤ 100000000 := fun y hyy => by
    have hm : y.2 ∈ polyL lx ly hx hy (y2.map Prod.snd) := by rw [← hy3]; exact List.mem_map_of_mem hyy
    obtain ⟨l, hll, e⟩ := poly_mem hm
    obtain ⟨x, hxx, e'⟩ := List.mem_map.1 hll
    have h1 := ring_len lx ly hx hy l
    have h2 := (hk2 x hxx).len
    rw [e'] at h2
    rw [e]
    omega
  have hn3 : y3.length ≤ 10000000 := by
    have e : y3.length = (polyL lx ly hx hy (y2.map Prod.snd)).length := by rw [← hy3, List.length_map]
    have := poly_len lx ly hx hy (y2.map Prod.snd)
    rw [List.length_map] at this
    omega
  rw [hy2] at hy3
  clear hr2 hb3 hf2 hk2 hl20 hl21 hy2
  go_wp2_with fail
  refine (plainRings_any v3 y3 _ _ hl3 hn3 hr3).mono ?_
  rintro e w4 ⟨v4, y4, rfl, hy4, hr4, hb4, _⟩
  have hB4 := hB3.trans (hb4.mono hB3.size)
  have hr5 := hr4.mono hB3.size
  have hy5 := hy4.trans hy3
  clear hr3 hb4 hr4 hy4 hy3 hl3
  go_wp2_with fail
  go_ret
  exact ⟨_, y4, rfl, hy5, hr5, hB4⟩
end Go.Proofs.Ytlakfamodfgmcaa
