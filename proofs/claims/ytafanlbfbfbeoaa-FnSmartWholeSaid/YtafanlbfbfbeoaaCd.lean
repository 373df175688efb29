/- The points of a way, and then back to the first one. -/
import Derived.Test.YtafanlbfbfbeoaaRi
import Derived.Test.YtafanlbfbfbeoaaSp
import Derived.BigRegion
import Derived.Deep.DeepCutAuto
namespace Go.Proofs.Ytafanlbfbfbeoaa
open Go.RowKit

/-- The three additions. -/
def backX (f l : Int × Int) (ws : List (Int × Int)) : List (Int × Int) := if l.1 = f.1 then ws else ws ++ [(f.1, l.2)]
def backY (f l : Int × Int) (ws : List (Int × Int)) : List (Int × Int) := if l.2 = f.2 then ws else ws ++ [f]
def backOne (f : Int × Int) (ws : List (Int × Int)) : List (Int × Int) := if ws.length = 1 then ws ++ [f] else ws

/-- A ring of a way. -/
def closedL (ws : List (Int × Int)) : List (Int × Int) :=
  backOne (ws.headD (0, 0)) (backY (ws.headD (0, 0)) (lastOr (0, 0) ws) (backX (ws.headD (0, 0)) (lastOr (0, 0) ws) ws))

/-- 'out = append(out, xs...)'. -/
theorem wpList_pushAll {P : Program} {ops : Array Oper} {rest : List Oper} {o : Oper} {a : Act} {Q : Exit → Act → World → Prop} (hgd : o.guard = none) (s x : Operand) (t : TypeId)
    (ho : o.op = .call { callee := .builtin .append, args := #[s, x], argTypes := #[t, t] })
    (e : TypeId) (i : TypeInfo) (z : Value) (size bytes : Nat) (ht : P.underlying t = some (.slice e)) (hi : P.info? e = some i) (hz : i.zero = some z)
    (hsize : i.size = size) (hby : i.bytes = bytes) (hzs : z.cells.size = size) (hsz : 0 < size) (hbs : bytes ≤ 1000)
    (W w0 : World) (B : Nat) (v : Value) (n : Nat) (xs : List Value) (hs : a.eval s = v) (hown : w0.ownsRow B e size v n xs) (C : Nat) (hbel : Below C W w0) (hCB : C ≤ B) (hBs : B ≤ w0.heap.size) (hn : n ≤ 1000000000)
    (news : List Value) (B' gx m c : Nat) (hrow : w0.ownsRow B' e size (.slice (some ⟨gx, 0, none⟩) m c) m news) (hm : 0 < m) (hm' : m ≤ 1000000000) (hx : a.eval x = .slice (some ⟨gx, 0, none⟩) m c) (h1 : ∀ u ∈ news, u.oneCell' = true) (hCw : C ≤ W.heap.size)
    (h : ∀ g cap w', w'.ownsRow B e size (.slice (some ⟨g, 0, none⟩) (n + m) cap) (n + m) (xs ++ news) → Below C W w' →
      w0.grownBy w' v.ownBlock → (v.ownBlock = some g ∨ g = w0.heap.size) → g < w'.heap.size → wpList P ops Q rest (a.put o.dst (.slice (some ⟨g, 0, none⟩) (n + m) cap)) w') :
    wpList P ops Q (o :: rest) a w0 := by
  refine wpList_append_lies _ hgd s x t ho B e i z size bytes ht hi hz hsize hby hzs hsz v n xs hs hown ⟨gx, 0, none⟩ m c news hx hrow.1 (fun j u hj => hrow.cells rfl j u hj) h1 hm (by unfold maxLen; omega) ?_ hBs w0.heap.size rfl ?_
  · have h2 : (n + m) * bytes ≤ (n + m) * 1000 := Nat.mul_le_mul_left _ hbs
    omega
  · intro g cap w' ho1 hg1 hat hlt
    exact h g cap w' ho1 (hbel.grown hg1 (Nat.le_trans hCw hbel.size) fun k hk => Nat.le_trans hCB (hown.lt k hk).1) hg1 hat hlt

theorem spots_one (ps : List (Int × Int)) : ∀ u ∈ ps.flatMap spotE, u.oneCell' = true := by
  intro u hu
  obtain ⟨p, _, hp⟩ := List.mem_flatMap.1 hu
  simp [spotE] at hp
  rcases hp with rfl | rfl <;> rfl

set_option maxRecDepth 100000 in
set_option maxHeartbeats 1000000 in
theorem closed_any (ao : Option Addr) (cap : Nat) (ws : List (Int × Int)) (B : Nat) (w : World) (hpos : 0 < ws.length) (hlen : ws.length ≤ 1000)
    (h : w.ownsRow B 25 2 (.slice ao ws.length cap) ws.length (ws.flatMap spotE)) :
    Calls Try.prog 8 #[.slice ao ws.length cap] w fun e w' => ∃ ao' cap', e = .returned (.slice ao' (closedL ws).length cap') ∧ w'.ownsRow w.heap.size 25 2 (.slice ao' (closedL ws).length cap') (closedL ws).length ((closedL ws).flatMap spotE) ∧ Below w.heap.size w w' := by
  obtain ⟨i0, hi, hz0, hz1, hz2⟩ := info_parts Try.info25
  obtain ⟨g, hg, hc⟩ := spots_read h
  obtain ⟨rfl, hgs, _⟩ := hg hpos
  obtain ⟨c0, c1⟩ := hc 0 hpos
  obtain ⟨d0, d1⟩ := hc (ws.length - 1) (by omega)
  obtain ⟨f, hf⟩ : ∃ f, f = ws[0] := ⟨_, rfl⟩
  obtain ⟨l, hl⟩ : ∃ l, l = ws[ws.length - 1]'(by omega) := ⟨_, rfl⟩
  rw [← hf] at c0 c1
  rw [← hl] at d0 d1
  have hfe : ws.headD (0, 0) = f := by rw [hf]; cases ws with
    | nil => simp at hpos
    | cons a b => rfl
  have hle : lastOr (0, 0) ws = l := by rw [hl]; exact last_is hpos _
  have HR : Hid (closedL ws = backOne f (backY f l (backX f l ws))) := by show _ = _; unfold closedL; rw [hfe, hle]
  generalize closedL ws = rs at *
  clear hf hl hfe hle hg hc
  go_enter Try.func8, Try.ntmps8
  go_wp2_with fail
  go_cut [3, 4] (fun s3 s4 wc => ∃ g3 g4 : Nat, s3 = .pointer (some ⟨g3, 0, none⟩) ∧ s4 = .pointer (some ⟨g4, 0, none⟩) ∧ Blk wc g3 #[.int .i64 f.1, .int .i64 f.2] 25 ∧ Blk wc g4 #[.int .i64 l.1, .int .i64 l.2] 25 ∧ Below w.heap.size w wc)
  case first =>
    have a0 : ∀ o, (w.alloc o).cell? ⟨g, 0, none⟩ = some (.int .i64 f.1) := fun o => by rw [World.cell?_alloc_past _ _ _ hgs]; simpa using c0
    have a1 : ∀ o, (w.alloc o).cell? ⟨g, 1, none⟩ = some (.int .i64 f.2) := fun o => by rw [World.cell?_alloc_past _ _ _ hgs]; simpa using c1
    have a2 : ∀ o, (w.alloc o).cell? ⟨g, (ws.length - 1) * 2, none⟩ = some (.int .i64 l.1) := fun o => by rw [World.cell?_alloc_past _ _ _ hgs]; simpa using d0
    have a3 : ∀ o, (w.alloc o).cell? ⟨g, (ws.length - 1) * 2 + 1, none⟩ = some (.int .i64 l.2) := fun o => by rw [World.cell?_alloc_past _ _ _ hgs]; simpa using d1
    go_region
    all_goals go_wp2_with fail
    all_goals go_meet
    · refine ⟨_, _, rfl, rfl, ((Blk.new w #[.int .i64 f.1, .int .i64 f.2] 25).alloc _).drew, ?_, (((Below.refl _ _).alloc (Nat.le_refl _) _).alloc (by simp) _).drew⟩
      have hh := Blk.new (w.alloc (.cells #[.int .i64 f.1, .int .i64 f.2] 25)) #[.int .i64 l.1, .int .i64 l.2] 25
      simp only [World.size_alloc] at hh
      exact hh.drew
    · refine ⟨_, _, rfl, rfl, ?_, ((Blk.new w #[.int .i64 l.1, .int .i64 l.2] 25).alloc _).drew, (((Below.refl _ _).alloc (Nat.le_refl _) _).alloc (by simp) _).drew⟩
      have hh := Blk.new (w.alloc (.cells #[.int .i64 l.1, .int .i64 l.2] 25)) #[.int .i64 f.1, .int .i64 f.2] 25
      simp only [World.size_alloc] at hh
      exact hh.drew
  case rest =>
    obtain ⟨g3, g4, rfl, rfl, b3, b4, hbc⟩ := hcut
    have hwc := hbc.size
    have hrow := own_below h (hbc.mono (Nat.le_refl _)) (Nat.le_refl _)
    have l3 := b3.lt
    have l4 := b4.lt
    clear c0 c1 d0 d1 h
    go_wp2_with (at_builtin; refine wpList_pushAll rfl (.tmp 15) (.tmp 16) 29 rfl 25 i0 _ 2 16 Try.underlying29 hi hz0 hz1 hz2 rfl (by decide) (by decide) w _ wc.heap.size (.slice (some ⟨wc.heap.size, 0, none⟩) 0 0) 0 [] rfl (own_new wc wc.heap.size (Nat.le_refl _) 25 2 0 [] rfl (by omega)) w.heap.size (below_alloc hbc _ (Nat.le_refl _)) hwc (by simp) (by omega) (ws.flatMap spotE) B g ws.length cap (hrow.alloc _) hpos (by omega) rfl (spots_one ws) (Nat.le_refl _) ?_)
    intro g5 cap0 w0 own0 bel0 hgr0 _ _
    have b30 := (b3.alloc _).grown hgr0 (fun e => by simp [Value.ownBlock] at e; omega)
    have b40 := (b4.alloc _).grown hgr0 (fun e => by simp [Value.ownBlock] at e; omega)
    have sz0 : wc.heap.size ≤ w0.heap.size := by have := hgr0.size; simp at this; omega
    clear hgr0 hrow b3 b4
    by_cases hX : l.1 = f.1 <;> by_cases hY : l.2 = f.2
    · have hX2 : (l.1 != f.1) = false := by simp [hX]
      have hY2 : (l.2 != f.2) = false := by simp [hY]
      by_cases h1 : ws.length = 1
      · have hrs : Hid (rs = ws ++ [f]) := by show _ = _; rw [HR.out]; simp [backX, backY, backOne, hX, hY, h1]
        clear HR hX hY
        have p00 : w0.cell? ⟨g3, 0, none⟩ = some (.int .i64 f.1) := b30.cell 0
        have p10 : w0.cell? ⟨g3, 1, none⟩ = some (.int .i64 f.2) := b30.cell 1
        have q00 : w0.cell? ⟨g4, 0, none⟩ = some (.int .i64 l.1) := b40.cell 0
        have q10 : w0.cell? ⟨g4, 1, none⟩ = some (.int .i64 l.2) := b40.cell 1
        go_wp2_with (at_builtin; refine wpList_push rfl _ _ 29 rfl 25 i0 _ 2 16 Try.underlying29 hi hz0 hz1 hz2 rfl (by decide) (by decide) w _ wc.heap.size _ (ws.length) _ rfl own0 w.heap.size bel0 hwc sz0 (by omega) [_, _] _ _ (by simp) 1 rfl rfl (by simp [Value.oneCell']) ?_)
        intro g5' cap1 w1 own1 bel1 szz1 hgr1 _ _
        have b31 := (b30.alloc _).grown hgr1 (fun e => by have := (own0.lt _ e.symm).1; omega)
        have b41 := (b40.alloc _).grown hgr1 (fun e => by have := (own0.lt _ e.symm).1; omega)
        have sz1 : wc.heap.size ≤ w1.heap.size := by omega
        clear hgr1 szz1
        go_wp2
        go_ret
        refine ⟨some ⟨g5', 0, none⟩, cap1, ?_, ?_, bel1⟩
        · rw [hrs.out, List.length_append, h1]; rfl
        · rw [hrs.out, List.length_append, h1]
          have := own_mono own1 hwc
          simpa [spotE, List.flatMap_append] using this
      · have hrs : Hid (rs = ws) := by show _ = _; rw [HR.out]; simp [backX, backY, backOne, hX, hY, h1]
        clear HR hX hY
        have p00 : w0.cell? ⟨g3, 0, none⟩ = some (.int .i64 f.1) := b30.cell 0
        have p10 : w0.cell? ⟨g3, 1, none⟩ = some (.int .i64 f.2) := b30.cell 1
        have q00 : w0.cell? ⟨g4, 0, none⟩ = some (.int .i64 l.1) := b40.cell 0
        have q10 : w0.cell? ⟨g4, 1, none⟩ = some (.int .i64 l.2) := b40.cell 1
        go_wp2
        go_ret
        exact ⟨some ⟨g5, 0, none⟩, cap0, by rw [hrs.out]; rfl, by rw [hrs.out]; exact own_mono own0 hwc, bel0⟩
    · have hX2 : (l.1 != f.1) = false := by simp [hX]
      have hY2 : (l.2 != f.2) = true := by simp [hY]
      have hrs : Hid (rs = ws ++ [f]) := by show _ = _; rw [HR.out]; unfold backOne backY backX; simp only [if_pos hX, if_neg hY]; rw [if_neg (by simp only [List.length_append, List.length_cons, List.length_nil]; omega)]; try simp
      clear HR hX hY
      have p00 : w0.cell? ⟨g3, 0, none⟩ = some (.int .i64 f.1) := b30.cell 0
      have p10 : w0.cell? ⟨g3, 1, none⟩ = some (.int .i64 f.2) := b30.cell 1
      have q00 : w0.cell? ⟨g4, 0, none⟩ = some (.int .i64 l.1) := b40.cell 0
      have q10 : w0.cell? ⟨g4, 1, none⟩ = some (.int .i64 l.2) := b40.cell 1
      go_wp2_with (at_builtin; refine wpList_push rfl _ _ 29 rfl 25 i0 _ 2 16 Try.underlying29 hi hz0 hz1 hz2 rfl (by decide) (by decide) w _ wc.heap.size _ (ws.length) _ rfl own0 w.heap.size bel0 hwc sz0 (by omega) [_, _] _ _ (by simp) 1 rfl rfl (by simp [Value.oneCell']) ?_)
      intro g5' cap1 w1 own1 bel1 szz1 hgr1 _ _
      have b31 := (b30.alloc _).grown hgr1 (fun e => by have := (own0.lt _ e.symm).1; omega)
      have b41 := (b40.alloc _).grown hgr1 (fun e => by have := (own0.lt _ e.symm).1; omega)
      have sz1 : wc.heap.size ≤ w1.heap.size := by omega
      clear hgr1 szz1
      have p01 : w1.cell? ⟨g3, 0, none⟩ = some (.int .i64 f.1) := b31.cell 0
      have p11 : w1.cell? ⟨g3, 1, none⟩ = some (.int .i64 f.2) := b31.cell 1
      have q01 : w1.cell? ⟨g4, 0, none⟩ = some (.int .i64 l.1) := b41.cell 0
      have q11 : w1.cell? ⟨g4, 1, none⟩ = some (.int .i64 l.2) := b41.cell 1
      go_wp2
      go_ret
      refine ⟨some ⟨g5', 0, none⟩, cap1, ?_, ?_, bel1⟩
      · rw [hrs.out, List.length_append]; rfl
      · rw [hrs.out, List.length_append]
        have := own_mono own1 hwc
        simpa [spotE, List.flatMap_append] using this
    · have hX2 : (l.1 != f.1) = true := by simp [hX]
      have hY2 : (l.2 != f.2) = false := by simp [hY]
      have hrs : Hid (rs = ws ++ [(f.1, l.2)]) := by show _ = _; rw [HR.out]; unfold backOne backY backX; simp only [if_neg hX, if_pos hY]; rw [if_neg (by simp only [List.length_append, List.length_cons, List.length_nil]; omega)]; try simp
      clear HR hX hY
      have p00 : w0.cell? ⟨g3, 0, none⟩ = some (.int .i64 f.1) := b30.cell 0
      have p10 : w0.cell? ⟨g3, 1, none⟩ = some (.int .i64 f.2) := b30.cell 1
      have q00 : w0.cell? ⟨g4, 0, none⟩ = some (.int .i64 l.1) := b40.cell 0
      have q10 : w0.cell? ⟨g4, 1, none⟩ = some (.int .i64 l.2) := b40.cell 1
      go_wp2_with (at_builtin; refine wpList_push rfl _ _ 29 rfl 25 i0 _ 2 16 Try.underlying29 hi hz0 hz1 hz2 rfl (by decide) (by decide) w _ wc.heap.size _ (ws.length) _ rfl own0 w.heap.size bel0 hwc sz0 (by omega) [_, _] _ _ (by simp) 1 rfl rfl (by simp [Value.oneCell']) ?_)
      intro g5' cap1 w1 own1 bel1 szz1 hgr1 _ _
      have b31 := (b30.alloc _).grown hgr1 (fun e => by have := (own0.lt _ e.symm).1; omega)
      have b41 := (b40.alloc _).grown hgr1 (fun e => by have := (own0.lt _ e.symm).1; omega)
      have sz1 : wc.heap.size ≤ w1.heap.size := by omega
      clear hgr1 szz1
      have p01 : w1.cell? ⟨g3, 0, none⟩ = some (.int .i64 f.1) := b31.cell 0
      have p11 : w1.cell? ⟨g3, 1, none⟩ = some (.int .i64 f.2) := b31.cell 1
      have q01 : w1.cell? ⟨g4, 0, none⟩ = some (.int .i64 l.1) := b41.cell 0
      have q11 : w1.cell? ⟨g4, 1, none⟩ = some (.int .i64 l.2) := b41.cell 1
      go_wp2
      go_ret
      refine ⟨some ⟨g5', 0, none⟩, cap1, ?_, ?_, bel1⟩
      · rw [hrs.out, List.length_append]; rfl
      · rw [hrs.out, List.length_append]
        have := own_mono own1 hwc
        simpa [spotE, List.flatMap_append] using this
    · have hX2 : (l.1 != f.1) = true := by simp [hX]
      have hY2 : (l.2 != f.2) = true := by simp [hY]
      have hrs : Hid (rs = ws ++ [(f.1, l.2), f]) := by show _ = _; rw [HR.out]; unfold backOne backY backX; simp only [if_neg hX, if_neg hY]; rw [if_neg (by simp only [List.length_append, List.length_cons, List.length_nil]; omega)]; try simp
      clear HR hX hY
      have p00 : w0.cell? ⟨g3, 0, none⟩ = some (.int .i64 f.1) := b30.cell 0
      have p10 : w0.cell? ⟨g3, 1, none⟩ = some (.int .i64 f.2) := b30.cell 1
      have q00 : w0.cell? ⟨g4, 0, none⟩ = some (.int .i64 l.1) := b40.cell 0
      have q10 : w0.cell? ⟨g4, 1, none⟩ = some (.int .i64 l.2) := b40.cell 1
      go_wp2_with (at_builtin; refine wpList_push rfl _ _ 29 rfl 25 i0 _ 2 16 Try.underlying29 hi hz0 hz1 hz2 rfl (by decide) (by decide) w _ wc.heap.size _ (ws.length) _ rfl own0 w.heap.size bel0 hwc sz0 (by omega) [_, _] _ _ (by simp) 1 rfl rfl (by simp [Value.oneCell']) ?_)
      intro g5' cap1 w1 own1 bel1 szz1 hgr1 _ _
      have b31 := (b30.alloc _).grown hgr1 (fun e => by have := (own0.lt _ e.symm).1; omega)
      have b41 := (b40.alloc _).grown hgr1 (fun e => by have := (own0.lt _ e.symm).1; omega)
      have sz1 : wc.heap.size ≤ w1.heap.size := by omega
      clear hgr1 szz1
      have p01 : w1.cell? ⟨g3, 0, none⟩ = some (.int .i64 f.1) := b31.cell 0
      have p11 : w1.cell? ⟨g3, 1, none⟩ = some (.int .i64 f.2) := b31.cell 1
      have q01 : w1.cell? ⟨g4, 0, none⟩ = some (.int .i64 l.1) := b41.cell 0
      have q11 : w1.cell? ⟨g4, 1, none⟩ = some (.int .i64 l.2) := b41.cell 1
      go_wp2_with (at_builtin; refine wpList_push rfl _ _ 29 rfl 25 i0 _ 2 16 Try.underlying29 hi hz0 hz1 hz2 rfl (by decide) (by decide) w _ wc.heap.size _ (ws.length + 1) _ rfl own1 w.heap.size bel1 hwc sz1 (by omega) [_, _] _ _ (by simp) 1 rfl rfl (by simp [Value.oneCell']) ?_)
      intro g6' cap2 w2 own2 bel2 szz2 hgr2 _ _
      have b32 := (b31.alloc _).grown hgr2 (fun e => by have := (own1.lt _ e.symm).1; omega)
      have b42 := (b41.alloc _).grown hgr2 (fun e => by have := (own1.lt _ e.symm).1; omega)
      have sz2 : wc.heap.size ≤ w2.heap.size := by omega
      clear hgr2 szz2
      have p02 : w2.cell? ⟨g3, 0, none⟩ = some (.int .i64 f.1) := b32.cell 0
      have p12 : w2.cell? ⟨g3, 1, none⟩ = some (.int .i64 f.2) := b32.cell 1
      have q02 : w2.cell? ⟨g4, 0, none⟩ = some (.int .i64 l.1) := b42.cell 0
      have q12 : w2.cell? ⟨g4, 1, none⟩ = some (.int .i64 l.2) := b42.cell 1
      go_wp2
      go_ret
      refine ⟨some ⟨g6', 0, none⟩, cap2, ?_, ?_, bel2⟩
      · rw [hrs.out, List.length_append]; rfl
      · rw [hrs.out, List.length_append]
        have := own_mono own2 hwc
        simpa [spotE, List.flatMap_append] using this
end Go.Proofs.Ytafanlbfbfbeoaa
