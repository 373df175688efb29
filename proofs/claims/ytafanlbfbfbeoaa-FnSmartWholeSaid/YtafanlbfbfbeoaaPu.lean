/- A point is pushed onto a line of several. -/
import Derived.Test.YtafanlbfbfbeoaaRm
import Derived.Laws.OwnMore
import Derived.Deep.DeepCutAuto
import Derived.Deep.RegionLaw
import Derived.Deep.AppendLies
namespace Go.Proofs.Ytafanlbfbfbeoaa
open Go.RowKit

/-- A point is laid at the end of one of several lines, or of a new one. -/
def pushL (rows : List (List (Int × Int))) (i : Nat) (p : Int × Int) : List (List (Int × Int)) := (if rows.length ≤ i then rows ++ [[]] else rows).modify i (· ++ [p])

/-- Several lines in memory. -/
structure Lines (w : World) (B : Nat) (v : Value) (xs : List (Value × List (Int × Int))) : Prop where
  rows : RowsAt w B 100 69 ptE v xs
  fresh : Fresh B w.heap.size xs

section
variable {w w2 : World} {B C : Nat} {v : Value} {xs : List (Value × List (Int × Int))}

theorem Lines.alloc (h : Lines w B v xs) (o : Obj) : Lines (w.alloc o) B v xs :=
  ⟨h.rows.alloc o, fun x hx g hg => by have := h.fresh.1 x hx g hg; simp; omega, h.fresh.2⟩
theorem Lines.drew (h : Lines w B v xs) : Lines w.drew B v xs := ⟨h.rows.drew, h.fresh⟩
theorem Lines.below (h : Lines w B v xs) (hb : Below w.heap.size w w2) : Lines w2 B v xs :=
  ⟨h.rows.below hb (Nat.le_refl _), fun x hx g hg => by have := h.fresh.1 x hx g hg; have := hb.size; omega, h.fresh.2⟩
end

theorem row_block' {w : World} {e : TypeId} {enc : Int × Int → List Value} {v : Value} {ps : List (Int × Int)} (h : RowAt w e enc v ps) : ∀ g, v.ownBlock = some g → g < w.heap.size ∧ ∃ cur : Array Value, w.heap[g]? = some (.cells cur e (0, 0)) := by
  obtain ⟨ao, cap, hv, ho⟩ := h
  intro g hg
  rw [hv] at hg
  exact ⟨(ho.lt g hg).2, own_block ho hg⟩

/-- A block is no part of the lines. -/
def Free (v : Value) (xs : List (Value × List (Int × Int))) (k : Nat) : Prop := (∀ x ∈ xs, x.1.ownBlock ≠ some k) ∧ v.ownBlock ≠ some k

/-- A row is as it was, if it does not lie in the row that has grown. -/
theorem own_kept {w w' : World} {B : Nat} {e : TypeId} {s n : Nat} {v : Value} {zs : List Value} {row : Option Nat} (h : w.ownsRow B e s v n zs) (hg : w.grownBy w' row) (hne : ∀ g, v.ownBlock = some g → row ≠ some g) : w'.ownsRow B e s v n zs := by
  refine ⟨h.1, ?_⟩
  rcases h.2 with hn | ⟨g, cap, cur, hv, hb', hgg, rest⟩
  · exact .inl hn
  · have hlt : g < w.heap.size := by
      rcases Nat.lt_or_ge g w.heap.size with hlt | hge
      · exact hlt
      · rw [Array.getElem?_eq_none hge] at hgg; cases hgg
    refine .inr ⟨g, cap, cur, hv, hb', ?_, rest⟩
    rw [hg.block g hlt (fun e => hne g (by rw [hv]; rfl) e.symm)]
    exact hgg

theorem RowAt.kept {w w' : World} {e : TypeId} {enc : Int × Int → List Value} {v : Value} {ps : List (Int × Int)} {row : Option Nat} (h : RowAt w e enc v ps) (hg : w.grownBy w' row) (hne : ∀ g, v.ownBlock = some g → row ≠ some g) : RowAt w' e enc v ps := by
  obtain ⟨ao, cap, rfl, ho⟩ := h; exact ⟨ao, cap, rfl, own_kept ho hg hne⟩

theorem Fresh.set {B N N' : Nat} {xs : List (Value × List (Int × Int))} (h : Fresh B N xs) (hB : B ≤ N) (hN : N ≤ N') {i : Nat} (hi : i < xs.length) {u : Value} {qs : List (Int × Int)} (hu : ∀ g, u.ownBlock = some g → (xs[i].1.ownBlock = some g ∨ N ≤ g) ∧ g < N') : Fresh B N' (xs.set i (u, qs)) := by
  constructor
  · intro x hx g hg
    obtain ⟨j, hj, rfl⟩ := List.mem_iff_getElem.1 hx
    rw [List.length_set] at hj
    rw [List.getElem_set] at hg
    split at hg
    · obtain ⟨h1, h2⟩ := hu g hg
      rcases h1 with h1 | h1
      · have := h.1 _ (List.getElem_mem hi) g h1; omega
      · omega
    · have := h.1 _ (List.getElem_mem hj) g hg; omega
  · rw [List.pairwise_iff_getElem]
    intro j k hj hk hjk g hg hg'
    rw [List.length_set] at hj hk
    have hp := List.pairwise_iff_getElem.1 h.2
    rw [List.getElem_set] at hg hg'
    split at hg
    · rename_i e
      subst e
      rw [if_neg (by omega)] at hg'
      rcases (hu g hg).1 with h1 | h1
      · exact hp _ _ hi hk hjk g h1 hg'
      · have := h.1 _ (List.getElem_mem hk) g hg'; omega
    · split at hg'
      · rename_i e
        subst e
        rcases (hu g hg').1 with h1 | h1
        · exact hp _ _ hj hi hjk g hg h1
        · have := h.1 _ (List.getElem_mem hj) g hg; omega
      · exact hp _ _ hj hk hjk g hg hg'

theorem modify_set {α : Type} (l : List α) (i : Nat) (hi : i < l.length) (f : α → α) : l.modify i f = l.set i (f l[i]) := by
  apply List.ext_getElem
  · simp
  · intro j h1 h2
    rw [List.getElem_modify, List.getElem_set]
    split
    · rename_i e; subst e; rfl
    · rfl

set_option maxRecDepth 100000 in
set_option maxHeartbeats 2000000 in
theorem push_any (i : Nat) (p : Int × Int) (v : Value) (xs : List (Value × List (Int × Int))) (B : Nat) (w : World) (hB : B ≤ w.heap.size) (hi1 : i ≤ xs.length) (hi2 : xs.length ≤ i + 1) (hil : i ≤ 10000) (hxl : ∀ x ∈ xs, x.2.length ≤ 100000) (h : Lines w B v xs) :
    Calls Try.prog 66 #[v, .int .i64 i, .agg #[.float .f64 (F p.1), .float .f64 (F p.2)]] w
      fun e w' => ∃ v' ys, e = .returned v' ∧ ys.map Prod.snd = pushL (xs.map Prod.snd) i p ∧ Lines w' B v' ys ∧ Below B w w' ∧ ∀ k, k < w.heap.size → Free v xs k → w'.heap[k]? = w.heap[k]? ∧ Free v' ys k := by
  obtain ⟨i0, hi, hz0, hz1, hz2⟩ := info_parts Try.info100
  obtain ⟨i1, hj, hy0, hy1, hy2⟩ := info_parts Try.info69
  obtain ⟨⟨ao, cap, rfl, ho, hrow⟩, hfr⟩ := h
  go_enter Try.func66, Try.ntmps66
  go_upto_if 10 with fail
  go_cut [0] (fun v1 wc => ∃ ys, Hid (ys.map Prod.snd = if (xs.map Prod.snd).length ≤ i then xs.map Prod.snd ++ [[]] else xs.map Prod.snd) ∧ ys.length = i + 1 ∧ Lines wc B v1 ys ∧ Below B w wc ∧ Blk wc w.heap.size #[.float .f64 (F p.1), .float .f64 (F p.2)] 69 ∧ (∀ y ∈ ys, y.1.ownBlock ≠ some w.heap.size) ∧ v1.ownBlock ≠ some w.heap.size ∧ ∀ k, k < w.heap.size → Free (.slice ao xs.length cap) xs k → wc.heap[k]? = w.heap[k]? ∧ Free v1 ys k)
  case first =>
    by_cases hlt : i < xs.length
    · go_wp2_with fail
      go_meet
      refine ⟨xs, (by show _ = _; rw [List.length_map, if_neg (by omega)]), by omega, (Lines.mk ⟨ao, cap, rfl, ho, hrow⟩ hfr).alloc _, (Below.refl _ _).alloc hB _, Blk.new _ _ _, fun y hy hh => ?_, fun hh => ?_, fun k hk hF => ⟨Below.heap_alloc w _ k hk, hF⟩⟩
      · have := hfr.1 y hy _ hh; omega
      · have := (ho.lt _ hh).2; omega
    · obtain rfl : i = xs.length := by omega
      go_wp2_with (at_builtin; refine wpList_push rfl _ _ 98 rfl 100 i0 _ 1 24 Try.underlying98 hi hz0 hz1 hz2 rfl (by decide) (by decide) w _ B _ xs.length _ rfl ((ho.alloc _).alloc _) B (((Below.refl _ _).alloc hB _).alloc (by simp; omega) _) (Nat.le_refl _) (by simp; omega) (by omega) [_] _ _ (by simp) 1 rfl rfl (by simp [Value.oneCell']) ?_)
      intro g' cap'' w3 hown3 hbel3 hsz3 hgr hat hg3
      go_wp2_with fail
      go_meet
      have hown0 := (((ho.alloc (.cells #[.float .f64 (F p.1), .float .f64 (F p.2)] 69)).alloc (.cells #[] 69)).alloc (.cells #[.slice (some ⟨w.heap.size + 1, 0, none⟩) 0 0] 100))
      have hemp : ((w.alloc (.cells #[.float .f64 (F p.1), .float .f64 (F p.2)] 69)).alloc (.cells #[] 69)).ownsRow 0 69 2 (.slice (some ⟨w.heap.size + 1, 0, none⟩) 0 0) 0 [] := by
        have := own_new (w.alloc (.cells #[.float .f64 (F p.1), .float .f64 (F p.2)] 69)) 0 (Nat.zero_le _) 69 2 0 [] rfl (by omega)
        rw [World.size_alloc] at this
        exact this
      have hb0 : ∀ g, (Value.slice ao xs.length cap).ownBlock = some g → g < w.heap.size := fun g hg => (ho.lt g hg).2
      refine ⟨xs ++ [(.slice (some ⟨w.heap.size + 1, 0, none⟩) 0 0, [])], (by show _ = _; rw [List.length_map, if_pos (Nat.le_refl _), List.map_append]; rfl), (by simp), ⟨⟨_, _, (by rw [List.length_append]; rfl), (by rw [List.length_append, List.map_append]; exact hown3), fun y hy => ?_⟩, ?_⟩, hbel3, ?_, fun y hy hh => ?_, fun hh => ?_, fun k hk hF => ⟨?_, fun y hy hh => ?_, fun hh => ?_⟩⟩
      · rcases List.mem_append.1 hy with hy | hy
        · exact ((((hrow y hy).alloc _).alloc _).alloc _).grown hown0 (by decide) hgr
        · rw [List.mem_singleton.1 hy]
          exact ⟨_, _, rfl, own_grown (hemp.alloc _) hown0 (by decide) hgr⟩
      · refine hfr.snoc hB (M := w.heap.size + 2) (by omega) (by omega) fun g hg => ?_
        have hg : w.heap.size + 1 = g := by simpa [Value.ownBlock] using hg
        omega
      · exact (((Blk.new w _ _).alloc _).alloc _).grown hgr fun e => by have := hb0 _ e.symm; omega
      · rcases List.mem_append.1 hy with hy | hy
        · have := hfr.1 y hy _ hh; omega
        · rw [List.mem_singleton.1 hy] at hh
          simp [Value.ownBlock] at hh
      · have hh : g' = w.heap.size := by simpa [Value.ownBlock] using hh
        rcases hat with e | e
        · have := hb0 _ e; omega
        · omega
      · have hsz0 : ((w.alloc (.cells #[.float .f64 (F p.1), .float .f64 (F p.2)] 69)).alloc (.cells #[] 69)).heap.size = w.heap.size + 2 := by rw [World.size_alloc, World.size_alloc]
        rw [hgr.block k (by rw [World.size_alloc, hsz0]; omega) (fun e => hF.2 e.symm), Below.heap_alloc _ _ k (by rw [hsz0]; omega), Below.heap_alloc _ _ k (by rw [World.size_alloc]; omega), Below.heap_alloc w _ k hk]
      · rcases List.mem_append.1 hy with hy | hy
        · exact hF.1 y hy hh
        · rw [List.mem_singleton.1 hy] at hh
          have hh : w.heap.size + 1 = k := by simpa [Value.ownBlock] using hh
          omega
      · have hh : g' = k := by simpa [Value.ownBlock] using hh
        rcases hat with e | e
        · exact hF.2 (by rw [e, hh])
        · omega
  case rest =>
    obtain ⟨ys, HY, hyl, hln, hbel, hbox, hne, hne2, hfree⟩ := hcut
    obtain ⟨ao1, cap1, gO, rfl, hgO, hrd⟩ := hln.rows.read
    obtain ⟨ao2, cap2, hv2, ho1, hrow1⟩ := hln.rows
    have hfr1 := hln.fresh
    cases hv2
    clear hln
    obtain ⟨rfl, hgs, hgB⟩ := hgO (by omega)
    obtain ⟨aq, cq, hv, c0, hq⟩ := hrd i (by omega)
    obtain ⟨ps, hps⟩ : ∃ ps, ps = (ys[i]'(by omega)).2 := ⟨_, rfl⟩
    rw [← hps] at hv c0 hq
    have HP : Hid (ps = (ys[i]'(by omega)).2 ∧ (ys[i]'(by omega)).1 = .slice aq ps.length cq) := ⟨hps, hv⟩
    clear hgO hrd hps hv
    obtain ⟨wr, rfl⟩ : ∃ wr, wr = wc := ⟨_, rfl⟩
    have e0 : wr.cell? ⟨w.heap.size, 0, none⟩ = some (.float .f64 (F p.1)) := hbox.cell 0
    have e1 : wr.cell? ⟨w.heap.size, 1, none⟩ = some (.float .f64 (F p.2)) := hbox.cell 1
    have a0 : ∀ o, (wr.alloc o).cell? ⟨w.heap.size, 0, none⟩ = some (.float .f64 (F p.1)) := fun o => (hbox.alloc o).cell 0
    have a1 : ∀ o, (wr.alloc o).cell? ⟨w.heap.size, 1, none⟩ = some (.float .f64 (F p.2)) := fun o => (hbox.alloc o).cell 1
    have a2 : ∀ o, (wr.alloc o).cell? ⟨gO, i, none⟩ = some (.slice aq ps.length cq) := fun o => by rw [World.cell?_alloc_past _ _ _ hgs]; exact c0
    have hpl : ps.length ≤ 200000 := by
      have hm : ps ∈ ys.map Prod.snd := by rw [HP.out.1]; exact List.mem_map_of_mem (List.getElem_mem _)
      rw [HY.out] at hm
      have hold : ps ∈ xs.map Prod.snd → ps.length ≤ 200000 := fun h => by
        obtain ⟨x, hx, e⟩ := List.mem_map.1 h
        have := hxl x hx
        rw [e] at this; omega
      split at hm
      · rcases List.mem_append.1 hm with h | h
        · exact hold h
        · rw [List.mem_singleton.1 h]; simp
      · exact hold hm
    have hbl := hbox.lt
    have hgne : some gO ≠ (Value.slice aq ps.length cq).ownBlock := fun e => by
      obtain ⟨_, hc1⟩ := own_block ho1 rfl
      obtain ⟨_, hc2⟩ := own_block hq e.symm
      rw [hc1] at hc2
      simp at hc2
    have hii : (i : Int) < (i : Int) + 1 := by omega
    go_upto_region 3 with fail
    go_region_law ((refine step_append_lies _ rfl (.tmp 20) (.tmp 22) 100 rfl 0 69 i1 _ 2 16 Try.underlying100 hj hy0 hy1 hy2 rfl (by decide) (.slice aq ps.length cq) ps.length (ps.flatMap ptE) (by simp [Act.eval, Act.put]) (hq.alloc _).drew _ 1 1 [.float .f64 (F p.1), .float .f64 (F p.2)] (by simp [Act.eval, Act.put]) rfl (World.news_of_block (heap_alloc_new wr _)) (by simp [Value.oneCell']) (by decide) (by unfold maxLen; omega) (by omega) (Nat.zero_le _) _ rfl ?_; intro g2 cap2 w2 hown2 hgr2 hat2 hlt2; have ho2 := own_grown (ho1.alloc (.cells #[.float .f64 (F p.1), .float .f64 (F p.2)] 69)).drew (hq.alloc (.cells #[.float .f64 (F p.1), .float .f64 (F p.2)] 69)).drew (by decide) hgr2; have hfz2 := ho2.frozenAt i; have hce2 := hgr2.cell (a := ⟨gO, i, none⟩) (a2 _) hgne))
    all_goals
      go_wp2_with fail
      go_ret
      obtain ⟨st1, st2⟩ := ho2.stored i (.slice (some ⟨g2, 0, none⟩) (ps.length + 1) cap2)
      have hiy : i < ys.length := by omega
      have hsz := hgr2.size
      have hsz : wr.heap.size + 1 ≤ w2.heap.size := by simpa using hgr2.size
      have hBr := hbel.size
      have hkk : (wr.alloc (.cells #[.float .f64 (F p.1), .float .f64 (F p.2)] 69)).drew.heap.size = wr.heap.size + 1 := by
        show (wr.alloc _).heap.size = _
        rw [World.size_alloc]
      have hown2' : w2.ownsRow 0 69 2 (.slice (some ⟨g2, 0, none⟩) (ps.length + 1) cap2) (ps.length + 1) ((ps ++ [p]).flatMap ptE) := by rw [List.flatMap_append]; simpa [ptE] using hown2
      have hgty : ∀ (v : Value) (qs : List (Int × Int)), RowAt w2 69 ptE v qs → v.ownBlock ≠ some gO := fun v qs hr e => by
        obtain ⟨_, hc1⟩ := own_block ho2 rfl
        obtain ⟨_, _, hc2⟩ := row_block' hr _ e
        rw [hc1] at hc2
        simp at hc2
      have hset : ∀ (v : Value) (qs : List (Int × Int)), RowAt w2 69 ptE v qs → RowAt (w2.setCell ⟨gO, i, none⟩ (.slice (some ⟨g2, 0, none⟩) (ps.length + 1) cap2)) 69 ptE v qs := fun v qs hr =>
        hr.kept st2 fun g hg e => hgty v qs hr (by rw [hg, e])
      have hnew : RowAt w2 69 ptE (.slice (some ⟨g2, 0, none⟩) (ps.length + 1) cap2) (ps ++ [p]) := ⟨_, _, by rw [List.length_append]; rfl, by rw [List.length_append]; exact hown2'⟩
      have hpw := List.pairwise_iff_getElem.1 hfr1.2
      refine ⟨.slice (some ⟨gO, 0, none⟩) (i + 1) cap1, rfl, ys.set i (.slice (some ⟨g2, 0, none⟩) (ps.length + 1) cap2, ps ++ [p]), ?_, ⟨⟨_, _, by rw [List.length_set, hyl], ?_, fun y hy => ?_⟩, ?_⟩, ?_, fun k hk hF => ?_⟩
      · unfold pushL
        rw [← HY.out, List.map_set, modify_set _ _ (by rw [List.length_map]; exact hiy), List.getElem_map, ← HP.out.1]
      · rw [hyl] at st1
        simp only [List.length_set, List.map_set, hyl]
        exact st1
      · obtain ⟨j, hj, rfl⟩ := List.mem_iff_getElem.1 hy
        rw [List.length_set] at hj
        rw [List.getElem_set]
        split
        · exact hset _ _ hnew
        · rename_i hij
          refine hset _ _ ((((hrow1 _ (List.getElem_mem hj)).alloc _).drew).kept hgr2 fun g hg e => ?_)
          rw [← HP.out.2] at e
          rcases Nat.lt_or_gt_of_ne hij with h | h
          · exact hpw i j hiy hj h g e hg
          · exact hpw j i hj hiy h g hg e
      · refine hfr1.set (Nat.le_trans hB hBr) (by simp; omega) hiy fun g hg => ?_
        have hg : g2 = g := by simpa [Value.ownBlock] using hg
        subst hg
        refine ⟨?_, by simpa using hlt2⟩
        rcases hat2 with e | e
        · left; rw [HP.out.2]; exact e
        · right; omega
      · refine Below.setCell (Below.grown ((hbel.alloc (Nat.le_trans hB hBr) _).drew) hgr2 ?_ ?_) (by exact hgB) _
        · have e : wr.heap.size ≤ (wr.alloc (.cells #[.float .f64 (F p.1), .float .f64 (F p.2)] 69)).drew.heap.size := by
            show wr.heap.size ≤ (wr.alloc _).heap.size
            rw [World.size_alloc]; omega
          omega
        · intro k hk
          have := hfr1.1 _ (List.getElem_mem hiy) k (by rw [HP.out.2]; exact hk)
          exact this.1
      · obtain ⟨hk1, hk2⟩ := hfree k hk hF
        have hqk : (Value.slice aq ps.length cq).ownBlock ≠ some k := by rw [← HP.out.2]; exact hk2.1 _ (List.getElem_mem hiy)
        have hgk : gO ≠ k := fun e => hk2.2 (by rw [e]; rfl)
        refine ⟨?_, fun y hy hh => ?_, fun hh => hk2.2 hh⟩
        · rw [Below.heap_setCell _ _ _ k (by exact Ne.symm hgk), hgr2.block k (by rw [hkk]; omega) (fun e => hqk e.symm)]
          exact (Below.heap_alloc wr _ k (by omega)).trans hk1
        · obtain ⟨j, hj, rfl⟩ := List.mem_iff_getElem.1 hy
          rw [List.length_set] at hj
          rw [List.getElem_set] at hh
          split at hh
          · have hh : g2 = k := by simpa [Value.ownBlock] using hh
            rcases hat2 with e | e
            · exact hqk (by rw [e, hh])
            · omega
          · exact hk2.1 _ (List.getElem_mem hj) hh
end Go.Proofs.Ytafanlbfbfbeoaa
