/- A line, clipped: the result is no nil. An append of a slice in a region that draws its order. -/
import Derived.Test.YtlakfamodfgmcaaMi
import Derived.Maps.AppendAt
import Derived.Deep.AppendLies
namespace Go.Proofs.Ytlakfamodfgmcaa
open Go.RowKit

set_option maxRecDepth 100000 in
set_option maxHeartbeats 1000000 in
theorem plainLines2_any (v : Value) (xs : List (Value × List (Int × Int))) (B : Nat) (w : World) (hl : ∀ x ∈ xs, x.2.length ≤ 100000000) (hn : xs.length ≤ 10000000) (h : RowsAt w B 84 71 ptE v xs) :
    Calls Try.prog 42 #[v] w fun e w' => ∃ v' ys, e = .returned v' ∧ ys.map Prod.snd = xs.map Prod.snd ∧ RowsAt w' w.heap.size 34 38 ptE v' ys ∧ Below w.heap.size w w' ∧ Fresh w.heap.size w'.heap.size ys ∧ ∃ gx cx, v' = .slice (some ⟨gx, 0, none⟩) ys.length cx := by
  obtain ⟨i0, hi, hz0, hz1, hz2⟩ := info_parts Try.info34
  obtain ⟨ao, cap, g, rfl, hg, hc⟩ := h.read
  clear h
  go_enter Try.func42, Try.ntmps42
  go_wp2_with fail
  go_loopw [3, 9] (fun v i wr => ∃ (k : Nat) (go : Nat) (cap' : Nat) (ys : List (Value × List (Int × Int))), k ≤ xs.length ∧ i = .int .i64 k ∧ v = .slice (some ⟨go, 0, none⟩) k cap' ∧ Hid (ys.map Prod.snd = (xs.take k).map Prod.snd ∧ ys.length = k) ∧
      wr.ownsRow w.heap.size 34 1 (.slice (some ⟨go, 0, none⟩) k cap') k (ys.map Prod.fst) ∧ (∀ y ∈ ys, RowAt wr 38 ptE y.1 y.2) ∧ Below w.heap.size w wr ∧ Fresh w.heap.size wr.heap.size ys)
    (fun _ i _ => xs.length - (intOf i).toNat)
  case atStart => exact ⟨0, _, _, [], Nat.zero_le _, rfl, rfl, ⟨rfl, rfl⟩, own_new _ _ (Nat.le_refl _) 34 1 0 [] rfl (by omega), fun y hy => by simp at hy, (Below.refl _ _).alloc (Nat.le_refl _) _, fun y hy => by simp at hy, .nil⟩
  case round =>
    obtain ⟨k, go, cap', ys, hk, rfl, rfl, HY, hown, hrow, hbel, hfr⟩ := hrel
    have hsz := hbel.size
    by_cases hlt : k < xs.length
    · obtain ⟨rfl, hgs, _⟩ := hg (by omega)
      obtain ⟨aq, cq, hv, c0, ho⟩ := hc k hlt
      have d0 : wr.cell? ⟨g, k, none⟩ = some (.slice aq xs[k].2.length cq) := (hbel.cell (by exact hgs)).trans c0
      have ho := own_below ho hbel (Nat.le_refl _)
      have hlp := hl xs[k] (List.getElem_mem _)
      obtain ⟨ps, hp⟩ : ∃ ps, ps = xs[k].2 := ⟨_, rfl⟩
      rw [← hp] at d0 ho hlp
      have HP : Hid (ps = xs[k].2) := hp
      clear hp hv c0 hc hg hl
      go_wp2_with fail
      refine (plainLine_any aq cq ps _ _ hlp ho).mono ?_
      rintro e w1 ⟨a1, c1, rfl, ho1, hb1⟩
      have hown1 := own_below hown hb1 (Nat.le_refl _)
      have hrow1 : ∀ y ∈ ys, RowAt w1 38 ptE y.1 y.2 := fun y hm => (hrow y hm).below hb1 (Nat.le_refl _)
      have hbel1 := hbel.trans (hb1.mono hbel.size)
      have hlt1 := ho1.lt
      have hs10 := hb1.size
      have ho1 := own_mono ho1 (Nat.zero_le _)
      have hs1 := hbel1.size
      clear hown hrow d0 ho hb1 hbel
      go_wp2_with (at_builtin; refine wpList_push rfl _ _ 51 rfl 34 i0 _ 1 24 Try.underlying51 hi hz0 hz1 hz2 rfl (by decide) (by decide) w _ w.heap.size _ k _ rfl hown1 w.heap.size hbel1 (Nat.le_refl _) (by omega) (by omega) [_] _ _ (by simp) 1 rfl rfl (by simp [Value.oneCell']) ?_)
      intro g' cap'' w3 hown3 hbel3 hsz3 hgr _ _
      have hfr3 : Fresh w.heap.size w3.heap.size (ys ++ [(Value.slice a1 ps.length c1, ps)]) := hfr.snoc hsz (Nat.le_of_lt hsz3) hs10 hlt1
      have hrow3 : ∀ y ∈ ys ++ [(Value.slice a1 ps.length c1, ps)], RowAt w3 38 ptE y.1 y.2 := fun y hm => by
        rcases List.mem_append.1 hm with hm | hm
        · exact ((hrow1 y hm).alloc _).grown (hown1.alloc _) (by decide) hgr
        · rw [List.mem_singleton.1 hm]
          exact ⟨_, _, rfl, own_grown (ho1.alloc _) (hown1.alloc _) (by decide) hgr⟩
      have hown3' : w3.ownsRow w.heap.size 34 1 (.slice (some ⟨g', 0, none⟩) (k + 1) cap'') (k + 1) ((ys ++ [(Value.slice a1 ps.length c1, ps)]).map Prod.fst) := by rw [List.map_append]; exact hown3
      have HY3 : Hid ((ys ++ [(Value.slice a1 ps.length c1, ps)]).map Prod.snd = (xs.take (k + 1)).map Prod.snd ∧ (ys ++ [(Value.slice a1 ps.length c1, ps)]).length = k + 1) := by
        refine ⟨?_, by rw [List.length_append, HY.out.2]; rfl⟩
        rw [List.take_succ_eq_append_getElem hlt, List.map_append, List.map_append, HY.out.1, HP.out]
        rfl
      clear hown3 hgr hown1 hrow1 hfr hlt1
      go_wp2_with fail
      go_roundw
      case rel => exact ⟨k + 1, _, _, _, by omega, by go_num, rfl, HY3, hown3', hrow3, hbel3, hfr3⟩
      case measure => simp [intOf]; omega
    · obtain rfl : k = xs.length := by omega
      have hY2 := HY.out
      rw [List.take_length] at hY2
      go_wp2_with fail
      go_ret
      exact ⟨.slice (some ⟨go, 0, none⟩) xs.length cap', ys, rfl, hY2.1, ⟨_, cap', by rw [hY2.2], by rw [hY2.2]; exact hown, hrow⟩, hbel, hfr, go, cap', by rw [hY2.2]⟩
set_option maxRecDepth 100000 in
set_option maxHeartbeats 1000000 in
theorem implLine2_any (lx ly hx hy : Int) (hl : Near (lx, ly)) (hh : Near (hx, hy)) (h1 : lx < hx) (h2 : ly < hy) (ao : Option Addr) (cap : Nat) (ps : List (Int × Int)) (B : Nat) (w : World) (hlen : ps.length ≤ 1000) (hn : ∀ p ∈ ps, Near p)
    (hoc : ∀ i (h : i + 1 < ps.length), Octi ps[i] ps[i + 1]) (h : w.ownsRow B 38 2 (.slice ao ps.length cap) ps.length (ps.flatMap ptE)) :
    Calls Try.prog 27 #[.agg #[.float .f64 (F lx), .float .f64 (F ly), .float .f64 (F hx), .float .f64 (F hy)], .slice ao ps.length cap, .bool false] w
      fun e w' => ∃ v ys, e = .returned v ∧ ys.map Prod.snd = lineL false lx ly hx hy ps ∧ RowsAt w' w.heap.size 34 38 ptE v ys ∧ Below w.heap.size w w' ∧ (∀ x ∈ ys, x.2.length ≤ 2000) ∧ ys.length ≤ 1001 ∧ ∃ gx cx, v = .slice (some ⟨gx, 0, none⟩) ys.length cx := by
  have hlp : ps.length ≤ 100000000 := by omega
  have hline := fun ao cap B W hr => lineString_any lx ly hx hy hl hh h1 h2 ao cap ps B W hlen hn hoc hr
  generalize lineL false lx ly hx hy ps = R at *
  go_enter Try.func27, Try.ntmps27
  go_wp2_with fail
  refine (bound_any lx ly hx hy _).mono ?_
  rintro e w1 ⟨rfl, hb1⟩
  have ho1 := own_below (h.alloc (.cells #[.float .f64 (F lx), .float .f64 (F ly), .float .f64 (F hx), .float .f64 (F hy)] 40)) hb1 (Nat.le_refl _)
  have hB1 : Below w.heap.size w w1 := ((Below.refl _ _).alloc (Nat.le_refl _) _).trans (hb1.mono (by simp))
  clear hb1 h
  go_wp2_with fail
  refine (points_any ao cap ps B _ hlp ho1).mono ?_
  rintro e w2 ⟨ao2, cap2, rfl, ho2, hb2⟩
  have hB2 := hB1.trans (hb2.mono hB1.size)
  clear ho1 hb2
  go_wp2_with fail
  refine (hline ao2 cap2 _ _ ho2).mono ?_
  rintro e w3 ⟨v3, x3, rfl, hx3, hr3, hb3, hl3, hn3⟩
  have hB3 := hB2.trans (hb3.mono hB2.size)
  clear ho2 hb3 hline
  go_wp2_with fail
  refine (plainLines2_any v3 x3 _ _ (fun x hx => by have := hl3 x hx; omega) (by omega) hr3).mono ?_
  rintro e w4 ⟨v4, y4, rfl, hy4, hr4, hb4, _, hsome⟩
  have hB4 := hB3.trans (hb4.mono hB3.size)
  have hr5 := hr4.mono hB3.size
  have hy5 := hy4.trans hx3
  have hl4 : ∀ y ∈ y4, y.2.length ≤ 2000 := fun y hy => by
    have hm : y.2 ∈ x3.map Prod.snd := by rw [← hy4]; exact List.mem_map_of_mem hy
    obtain ⟨x, hx, e⟩ := List.mem_map.1 hm
    rw [← e]; exact hl3 x hx
  have hn4 : y4.length ≤ 1001 := by rw [← List.length_map (f := Prod.snd), hy4, List.length_map]; exact hn3
  clear hr3 hb4 hr4 hy4 hx3 hl3 hn3
  go_wp2_with fail
  go_ret
  exact ⟨_, y4, rfl, hy5, hr5, hB4, hl4, hn4, hsome⟩

/-- 'append(s, x...)', of none too, as a step of a region that draws its order. -/
theorem step_append_any {P : Program} (w : World) {ops : Array Oper} {o : Oper} {a : Act} {K : Act → World → Prop} {Q : Exit → Act → World → Prop} {E : Prop} (hgd : o.guard = none) (s x : Operand) (t : TypeId)
    (ho : o.op = .call { callee := .builtin .append, args := #[s, x], argTypes := #[t, t] })
    (base : Nat) (e : TypeId) (i : TypeInfo) (z : Value) (size bytes : Nat) (ht : P.underlying t = some (.slice e)) (hi : P.info? e = some i) (hz : i.zero = some z)
    (hsize : i.size = size) (hby : i.bytes = bytes) (hzs : z.cells.size = size) (hsz : 0 < size)
    (v : Value) (n : Nat) (xs : List Value) (hs : a.eval s = v) (hown : w.ownsRow base e size v n xs)
    (ad : Addr) (m c : Nat) (news : List Value) (hx : a.eval x = .slice (some ad) m c) (hl : news.length = m * size) (hnews : ∀ j u, news[j]? = some u → w.cell? (ad.add j) = some u) (h1 : ∀ u ∈ news, u.oneCell' = true)
    (h63 : n + m ≤ maxLen) (hbytes : (n + m) * bytes ≤ 140737488355328) (hbase : base ≤ w.heap.size)
    (h : ∀ v' w', w'.ownsRow base e size v' (n + m) (xs ++ news) → w.grownBy w' v.ownBlock → K (a.put o.dst v') w') :
    if Region.wanted o (yielded ops a.tmps) = true then Oper.wp P o a w K Q else E := by
  have hw : Region.wanted o (yielded ops a.tmps) = true := by simp [Region.wanted, hgd]
  rw [if_pos hw]
  obtain ⟨v', w', hr, h2, h3, _, _⟩ := run_append_own_at (P := P) w base t o.type e i z size bytes ht hi hz hsize hby hzs hsz v n xs hown ad m c news hl hnews h1 h63 hbytes hbase
  unfold Oper.wp execOp
  simp only [ho, resolve, invoke, builtin, Sem.run_bind, Sem.run_pure, Result.andThen_ok, List.map_toArray, List.map_cons, List.map_nil, hs, hx, hr]
  exact h v' w' h2 h3
end Go.Proofs.Ytlakfamodfgmcaa
