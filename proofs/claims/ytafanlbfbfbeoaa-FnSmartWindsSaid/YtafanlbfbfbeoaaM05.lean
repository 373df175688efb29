/- What the proofs over smartclip lean on, part 6 of 48. -/
import Derived.Test.YtafanlbfbfbeoaaM02
import Derived.Test.YtafanlbfbfbeoaaM04
import Derived.Deep.LoopGhost
import Derived.Deep.DeepCutAuto
import Derived.StillTailTactics

/- A line, clipped. -/
namespace Go.Proofs.Ytafanlbfbfbeoaa
open Go.RowKit

/-- What is left of a line between two points. -/
def segP (o : Bool) (lx ly hx hy : Int) (P Q : Int × Int) : Option ((Int × Int) × (Int × Int)) :=
  (segL lx ly hx hy P (dirK P Q) ((lenK P Q).toNat + 3) o o 0 (lenK P Q)).map fun st => (ptK P (dirK P Q) st.1, ptK P (dirK P Q) st.2)

/-- One line between two points is dealt with. -/
def stepR (o : Bool) (lx ly hx hy : Int) (last : Bool) (st : List (List (Int × Int)) × Nat) (P Q : Int × Int) : List (List (Int × Int)) × Nat :=
  match segP o lx ly hx hy P Q with
  | none => st
  | some ab =>
    if codeX o lx ly hx hy Q.1 Q.2 = 0 then (if last then pushL (pushL st.1 st.2 ab.1) st.2 ab.2 else pushL st.1 st.2 ab.1, st.2)
    else (pushL (pushL st.1 st.2 ab.1) st.2 ab.2, if last then st.2 else st.2 + 1)

/-- A line, clipped: its parts, and the number of the next one. -/
def lineR (o : Bool) (lx ly hx hy : Int) : List (Int × Int) → Int × Int → List (List (Int × Int)) × Nat → List (List (Int × Int)) × Nat
  | [], _, st => st
  | Q :: l, P, st => lineR o lx ly hx hy l Q (stepR o lx ly hx hy l.isEmpty st P Q)

/-- The parts of a line. -/
def lineL (o : Bool) (lx ly hx hy : Int) : List (Int × Int) → List (List (Int × Int))
  | [] => []
  | P :: l => (lineR o lx ly hx hy l P ([], 0)).1

theorem push_len {rows : List (List (Int × Int))} {i : Nat} {p : Int × Int} (h1 : rows.length ≤ i + 1) (h2 : i ≤ rows.length) : (pushL rows i p).length = i + 1 := by
  unfold pushL
  rw [List.length_modify]
  split
  · rw [List.length_append]; simp; omega
  · omega

theorem push_bd {rows : List (List (Int × Int))} {i n : Nat} {p : Int × Int} (h : ∀ r ∈ rows, r.length ≤ n) : ∀ r ∈ pushL rows i p, r.length ≤ n + 1 := by
  intro r hr
  unfold pushL at hr
  obtain ⟨j, hj, rfl⟩ := List.mem_iff_getElem.1 hr
  rw [List.length_modify] at hj
  rw [List.getElem_modify]
  have hb : ∀ (l : List (List (Int × Int))) (hl : l = if rows.length ≤ i then rows ++ [[]] else rows) (hj : j < l.length), l[j].length ≤ n := fun l hl hj => by
    have hm := List.getElem_mem hj
    have hm2 : l[j] ∈ (if rows.length ≤ i then rows ++ [[]] else rows) := by rw [← hl]; exact hm
    split at hm2
    · rcases List.mem_append.1 hm2 with h1 | h1
      · exact h _ h1
      · rw [List.mem_singleton.1 h1]; simp
    · exact h _ hm2
  have := hb _ rfl hj
  split
  · rw [List.length_append]; simp; omega
  · omega

theorem bits_zero {a b c d : Int} (ha : a = 0 ∨ a = 1 ∨ a = 2) (hb : b = 0 ∨ b = 1 ∨ b = 2) (hc : c = 0 ∨ c = 1 ∨ c = 2) (hd : d = 0 ∨ d = 1 ∨ d = 2) :
    (bits .or .i64 (a + 4 * b) (c + 4 * d) == 0) = decide ((a = 0 ∧ b = 0) ∧ (c = 0 ∧ d = 0)) ∧ (bits .and .i64 (a + 4 * b) (c + 4 * d) != 0) = decide ((a = c ∧ a ≠ 0) ∨ (b = d ∧ b ≠ 0)) := by
  rcases ha with rfl | rfl | rfl <;> rcases hb with rfl | rfl | rfl <;> rcases hc with rfl | rfl | rfl <;> rcases hd with rfl | rfl | rfl <;> decide

theorem codeX_zero (o : Bool) (lx ly hx hy x y : Int) : codeX o lx ly hx hy x y = 0 ↔ acode o lx hx x = 0 ∧ acode o ly hy y = 0 := by
  unfold codeX
  rcases acode_cases o lx hx x with h | h | h <;> rcases acode_cases o ly hy y with h' | h' | h' <;> rw [h, h'] <;> omega

/-- What is known between two lines. -/
structure LInv (w wr : World) (lx ly hx hy : Int) (v : Value) (xs : List (Value × List (Int × Int))) : Prop where
  lines : Lines wr (w.heap.size + 1) v xs
  box : Blk wr w.heap.size #[.float .f64 (F lx), .float .f64 (F ly), .float .f64 (F hx), .float .f64 (F hy)] 71
  bel : Below w.heap.size w wr

section
variable {w wr w2 : World} {lx ly hx hy : Int} {v v2 : Value} {xs ys : List (Value × List (Int × Int))}
theorem LInv.alloc (h : LInv w wr lx ly hx hy v xs) (o : Obj) : LInv w (wr.alloc o) lx ly hx hy v xs := ⟨h.lines.alloc o, h.box.alloc o, h.bel.alloc h.bel.size o⟩
theorem LInv.below (h : LInv w wr lx ly hx hy v xs) (hb : Below wr.heap.size wr w2) : LInv w w2 lx ly hx hy v xs := ⟨h.lines.below hb, h.box.below hb h.box.lt, h.bel.trans (hb.mono h.bel.size)⟩
theorem LInv.push (h : LInv w wr lx ly hx hy v xs) (hl : Lines w2 (w.heap.size + 1) v2 ys) (hb : Below (w.heap.size + 1) wr w2) : LInv w w2 lx ly hx hy v2 ys := ⟨hl, h.box.below hb (Nat.lt_succ_self _), h.bel.trans (hb.mono (Nat.le_succ _))⟩
theorem LInv.set (h : LInv w wr lx ly hx hy v xs) (a : Addr) (ha : w.heap.size < a.block) (hf : Free v xs a.block) (u : Value) : LInv w (wr.setCell a u) lx ly hx hy v xs := by
  obtain ⟨⟨⟨ao, cap, rfl, ho, hr⟩, hfr⟩, hb, hw⟩ := h
  refine ⟨⟨⟨ao, cap, rfl, ownsRow_setCell_other ho hf.2 u, fun x hx => ?_⟩, fun x hx g hg => ?_, hfr.2⟩, hb.setOther a (by omega) u, hw.setCell (Nat.le_of_lt ha) u⟩
  · obtain ⟨aq, cq, hv, hq⟩ := hr x hx
    have := hf.1 x hx
    rw [hv] at this
    exact ⟨aq, cq, hv, ownsRow_setCell_other hq this u⟩
  · have := hfr.1 x hx g hg
    simpa using this
end

theorem Lines.free {w : World} {B : Nat} {v : Value} {xs : List (Value × List (Int × Int))} (h : Lines w B v xs) {k : Nat} (hk : w.heap.size ≤ k) : Free v xs k := by
  obtain ⟨⟨ao, cap, hv, ho, hr⟩, hfr⟩ := h
  constructor
  · intro x hx e; have := hfr.1 x hx k e; omega
  · intro e; rw [hv] at e; have := (ho.lt k e).2; omega

theorem LInv.zero {w wr : World} {lx ly hx hy : Int} (hb : Blk wr w.heap.size #[.float .f64 (F lx), .float .f64 (F ly), .float .f64 (F hx), .float .f64 (F hy)] 71) (hw : Below w.heap.size w wr) : LInv w wr lx ly hx hy (.slice none 0 0) [] :=
  ⟨⟨⟨none, 0, rfl, World.ownsRow_nil _ _ _ _, fun x hx => by simp at hx⟩, fun x hx => by simp at hx, .nil⟩, hb, hw⟩

theorem Lines.mono {w : World} {B B' : Nat} {v : Value} {xs : List (Value × List (Int × Int))} (h : Lines w B v xs) (hB : B' ≤ B) : Lines w B' v xs :=
  ⟨h.rows.mono hB, fun x hx g hg => by have := h.fresh.1 x hx g hg; omega, h.fresh.2⟩

set_option maxRecDepth 100000 in
set_option maxHeartbeats 4000000 in
theorem line_full (o : Bool) (lx ly hx hy : Int) (hl : Near (lx, ly)) (hh : Near (hx, hy)) (h1 : lx < hx) (h2 : ly < hy) (ao : Option Addr) (cap : Nat) (ps : List (Int × Int)) (B : Nat) (w : World) (hlen : ps.length ≤ 1000) (hn : ∀ p ∈ ps, Near p)
    (hoc : ∀ i (h : i + 1 < ps.length), Octi ps[i] ps[i + 1]) (h : w.ownsRow B 69 2 (.slice ao ps.length cap) ps.length (ps.flatMap ptE)) :
    Calls Try.prog 57 #[.agg #[.float .f64 (F lx), .float .f64 (F ly), .float .f64 (F hx), .float .f64 (F hy)], .slice ao ps.length cap, .bool o] w
      fun e w' => ∃ v xs, e = .returned v ∧ xs.map Prod.snd = lineL o lx ly hx hy ps ∧ Lines w' w.heap.size v xs ∧ Below w.heap.size w w' ∧ (∀ x ∈ xs, x.2.length ≤ 2000) ∧ xs.length ≤ 1001 := by
  by_cases hz : ps = []
  · subst hz
    go_enter Try.func57, Try.ntmps57
    go_wp2
    go_ret
    exact ⟨.slice none 0 0, [], rfl, rfl, ⟨⟨none, 0, rfl, World.ownsRow_nil _ _ _ _, fun x hx => by simp at hx⟩, ⟨fun x hx => by simp at hx, .nil⟩⟩, (Below.refl _ _).alloc (Nat.le_refl _) _, fun x hx => by simp at hx, by simp⟩
  have hpos : 0 < ps.length := List.length_pos_iff.2 hz
  obtain ⟨g, hg, hc⟩ := pts_read h
  obtain ⟨rfl, hgs, hgB⟩ := hg hpos
  clear hg h hz
  have hnk : ∀ k (hk : k < ps.length), Near ps[k] := fun k hk => hn _ (List.getElem_mem hk)
  clear hn
  obtain ⟨c0, c1⟩ := hc 0 hpos
  have hp0 := (hnk 0 hpos).sm
  obtain ⟨p0, hp⟩ : ∃ p0, p0 = ps[0] := ⟨_, rfl⟩
  rw [← hp] at c0 c1 hp0
  have HP0 : Hid (p0 = ps[0]) := hp
  clear hp
  obtain ⟨R, hR⟩ : ∃ R, R = lineL o lx ly hx hy ps := ⟨_, rfl⟩
  rw [← hR]
  have HR0 : Hid ((lineR o lx ly hx hy (ps.drop 1) (ps.getD 0 (0, 0)) ([], 0)).1 = R) := by
    rw [hR]
    cases ps with
    | nil => simp at hpos
    | cons P l => rfl
  clear hR
  have hls := hl.sm
  have hhs := hh.sm
  go_enter Try.func57, Try.ntmps57
  go_upto_if 19 with fail
  go_cut [9] (fun v wc => v = .int .i64 (codeX o lx ly hx hy p0.1 p0.2) ∧ Blk wc w.heap.size #[.float .f64 (F lx), .float .f64 (F ly), .float .f64 (F hx), .float .f64 (F hy)] 71 ∧ Below w.heap.size w wc)
  case first =>
    obtain ⟨wr, hwr⟩ : ∃ wr, wr = w.alloc (.cells #[.float .f64 (F lx), .float .f64 (F ly), .float .f64 (F hx), .float .f64 (F hy)] 71) := ⟨_, rfl⟩
    rw [← hwr]
    have hbox : Blk wr w.heap.size #[.float .f64 (F lx), .float .f64 (F ly), .float .f64 (F hx), .float .f64 (F hy)] 71 := by rw [hwr]; exact Blk.new _ _ _
    have hbel : Below w.heap.size w wr := by rw [hwr]; exact (Below.refl _ _).alloc (Nat.le_refl _) _
    have e0 : wr.cell? ⟨w.heap.size, 0, none⟩ = some (.float .f64 (F lx)) := hbox.cell 0
    have e1 : wr.cell? ⟨w.heap.size, 1, none⟩ = some (.float .f64 (F ly)) := hbox.cell 1
    have e2 : wr.cell? ⟨w.heap.size, 2, none⟩ = some (.float .f64 (F hx)) := hbox.cell 2
    have e3 : wr.cell? ⟨w.heap.size, 3, none⟩ = some (.float .f64 (F hy)) := hbox.cell 3
    have d0 : wr.cell? ⟨g, 0, none⟩ = some (.float .f64 (F p0.1)) := by rw [hwr, World.cell?_alloc_past _ _ _ hgs]; simpa using c0
    have d1 : wr.cell? ⟨g, 1, none⟩ = some (.float .f64 (F p0.2)) := by rw [hwr, World.cell?_alloc_past _ _ _ hgs]; simpa using c1
    clear hwr c0 c1
    cases o
    · go_wp2_with fail
      go_still_tail 4, (by kernel_rfl)
      repeat still_step
      change wpList _ _ _ _ _ wr.drew
      have hbox2 := hbox.drew
      have hbel2 := hbel.drew
      obtain ⟨w2, hw2⟩ : ∃ w2, w2 = wr.drew := ⟨_, rfl⟩
      rw [← hw2] at hbox2 hbel2 ⊢
      clear e0 e1 e2 e3 d0 d1 hw2 hbox hbel
      go_wp2_with fail
      refine (bitCodeX_any lx ly hx hy p0.1 p0.2 hls.1 hls.2 hhs.1 hhs.2 hp0.1 hp0.2 _).mono ?_
      rintro e w3 ⟨rfl, hb3⟩
      go_wp2_with fail
      go_meet
      exact ⟨rfl, hbox2.below hb3 hbox2.lt, hbel2.trans (hb3.mono hbel2.size)⟩
    · go_wp2_with fail
      go_still_tail 4, (by kernel_rfl)
      repeat still_step
      change wpList _ _ _ _ _ wr.drew
      have hbox2 := hbox.drew
      have hbel2 := hbel.drew
      obtain ⟨w2, hw2⟩ : ∃ w2, w2 = wr.drew := ⟨_, rfl⟩
      rw [← hw2] at hbox2 hbel2 ⊢
      clear e0 e1 e2 e3 d0 d1 hw2 hbox hbel
      go_wp2_with fail
      refine (bitCodeOpen_any lx ly hx hy p0.1 p0.2 hls.1 hls.2 hhs.1 hhs.2 hp0.1 hp0.2 _).mono ?_
      rintro e w3 ⟨rfl, hb3⟩
      go_wp2_with fail
      go_meet
      exact ⟨rfl, hbox2.below hb3 hbox2.lt, hbel2.trans (hb3.mono hbel2.size)⟩
  case rest =>
    obtain ⟨rfl, hbox, hbel⟩ := hcut
    have inv0 := LInv.zero hbox hbel
    clear hbox hbel c0 c1 hp0
    go_wp2_with fail
    go_loopg [7, 8, 9, 11] (ps.length - 1) (fun mm vo vl vc vi wr => ∃ (i line : Nat) (xs : List (Value × List (Int × Int))), mm + i = ps.length ∧ 1 ≤ i ∧ vi = .int .i64 i ∧ vl = .int .i64 line ∧ vc = .int .i64 (codeX o lx ly hx hy (ps.getD (i - 1) (0, 0)).1 (ps.getD (i - 1) (0, 0)).2) ∧
        (lineR o lx ly hx hy (ps.drop i) (ps.getD (i - 1) (0, 0)) (xs.map Prod.snd, line)).1 = R ∧ LInv w wr lx ly hx hy vo xs ∧ (line ≤ xs.length ∧ xs.length ≤ line + 1 ∧ line ≤ i) ∧ ∀ x ∈ xs, x.2.length ≤ 2 * i)
    case atStart =>
      have e0 : ps.getD 0 (0, 0) = p0 := by rw [HP0.out, List.getD_eq_getElem?_getD, List.getElem?_eq_getElem hpos]; rfl
      exact ⟨1, 0, [], by omega, by omega, rfl, rfl, by rw [e0], HR0.out, inv0, ⟨by omega, by simp, by omega⟩, fun x hx => by simp at hx⟩
    case round =>
      obtain ⟨i, line, xs, hmi, hi1, rfl, rfl, rfl, HRx, inv, ⟨hl1, hl2, hl3⟩, hxb⟩ := hrel
      obtain ⟨mm, rfl⟩ : ∃ mm, mm = gk := ⟨_, rfl⟩
      have HR : Hid ((lineR o lx ly hx hy (ps.drop i) (ps.getD (i - 1) (0, 0)) (xs.map Prod.snd, line)).1 = R) := HRx
      clear inv0 HRx HR0 HP0
      by_cases hlt : i < ps.length
      · obtain ⟨k, rfl⟩ : ∃ k, i = k + 1 := ⟨i - 1, by omega⟩
        obtain ⟨c0, c1⟩ := hc k (by omega)
        obtain ⟨c2, c3⟩ := hc (k + 1) hlt
        have hPn := hnk k (by omega)
        have hQn := hnk (k + 1) hlt
        have hPQ := hoc k hlt
        have d0 : wr.cell? ⟨g, k * 2, none⟩ = some (.float .f64 (F ps[k].1)) := (inv.bel.cell (by exact hgs)).trans c0
        have d1 : wr.cell? ⟨g, k * 2 + 1, none⟩ = some (.float .f64 (F ps[k].2)) := (inv.bel.cell (by exact hgs)).trans c1
        have d2 : wr.cell? ⟨g, (k + 1) * 2, none⟩ = some (.float .f64 (F ps[k + 1].1)) := (inv.bel.cell (by exact hgs)).trans c2
        have d3 : wr.cell? ⟨g, (k + 1) * 2 + 1, none⟩ = some (.float .f64 (F ps[k + 1].2)) := (inv.bel.cell (by exact hgs)).trans c3
        have eP : ps.getD (k + 1 - 1) (0, 0) = ps[k] := by
          rw [Nat.add_sub_cancel, List.getD_eq_getElem?_getD, List.getElem?_eq_getElem (by omega)]; rfl
        have eQ : ps.getD (k + 1 + 1 - 1) (0, 0) = ps[k + 1] := by
          rw [Nat.add_sub_cancel, List.getD_eq_getElem?_getD, List.getElem?_eq_getElem hlt]; rfl
        have hdrop : ps.drop (k + 1) = ps[k + 1] :: ps.drop (k + 1 + 1) := (List.getElem_cons_drop (h := hlt)).symm
        have hR1 := HR.out
        rw [eP, hdrop] at hR1
        rw [eP]
        obtain ⟨P, hP⟩ : ∃ P, P = ps[k] := ⟨_, rfl⟩
        obtain ⟨Q, hQ⟩ : ∃ Q, Q = ps[k + 1] := ⟨_, rfl⟩
        rw [← hP] at d0 d1 hPn hPQ hR1
        rw [← hQ] at d2 d3 hQn hPQ hR1 eQ
        rw [← hP]
        have EQ : Hid (ps.getD (k + 1 + 1 - 1) (0, 0) = Q) := eQ
        have hlast : (ps.drop (k + 1 + 1)).isEmpty = decide (k + 1 + 1 = ps.length) := by
          rw [Bool.eq_iff_iff, List.isEmpty_iff, decide_eq_true_iff, List.drop_eq_nil_iff]; omega
        have HS0 : Hid ((lineR o lx ly hx hy (ps.drop (k + 1 + 1)) Q (stepR o lx ly hx hy (decide (k + 1 + 1 = ps.length)) (xs.map Prod.snd, line) P Q)).1 = R) := by
          rw [← hlast]; exact hR1
        clear hR1 hdrop eP eQ hP hQ hlast HR c0 c1 c2 c3
        have hd := dir_ok P Q
        have hN := len_nonneg P Q
        have hend := pt_len hPQ
        obtain ⟨d, hd0⟩ : ∃ d, d = dirK P Q := ⟨_, rfl⟩
        obtain ⟨N, hN0⟩ : ∃ N, N = lenK P Q := ⟨_, rfl⟩
        rw [← hd0] at hd hend
        rw [← hN0] at hN hend
        obtain ⟨S, hS⟩ : ∃ S, S = segL lx ly hx hy P d (N.toNat + 3) o o 0 N := ⟨_, rfl⟩
        have HSP : Hid (segP o lx ly hx hy P Q = S.map fun st => (ptK P d st.1, ptK P d st.2)) := by show _ = _; unfold segP; rw [← hd0, ← hN0, hS]
        have HS : Hid (S = segL lx ly hx hy P d (N.toNat + 3) o o 0 N) := hS
        clear hd0 hN0 hS hPQ
        have hsz := inv.bel.size
        have hPs := hPn.sm
        have hQs := hQn.sm
        have hii : (k : Int) + 1 < (ps.length : Int) := by omega
        -- the two ends in boxes of their own
        have inva := (inv.alloc (.cells #[.float .f64 (F P.1), .float .f64 (F P.2)] 69)).alloc (.cells #[.float .f64 (F Q.1), .float .f64 (F Q.2)] 69)
        have ba := (Blk.new wr #[.float .f64 (F P.1), .float .f64 (F P.2)] 69).alloc (.cells #[.float .f64 (F Q.1), .float .f64 (F Q.2)] 69)
        have bb := Blk.new (wr.alloc (.cells #[.float .f64 (F P.1), .float .f64 (F P.2)] 69)) #[.float .f64 (F Q.1), .float .f64 (F Q.2)] 69
        rw [World.size_alloc] at bb
        have fa := inv.lines.free (k := wr.heap.size) (Nat.le_refl _)
        have fb := inv.lines.free (k := wr.heap.size + 1) (Nat.le_succ _)
        have hwa : w.heap.size < wr.heap.size := inv.box.lt
        have hgw : g < wr.heap.size := by omega
        go_upto_if 46 with fail
        obtain ⟨wx, hwx⟩ : ∃ wx, wx = (wr.alloc (.cells #[.float .f64 (F P.1), .float .f64 (F P.2)] 69)).alloc (.cells #[.float .f64 (F Q.1), .float .f64 (F Q.2)] 69) := ⟨_, rfl⟩
        obtain ⟨b1, hb1⟩ : ∃ b1, b1 = wr.heap.size := ⟨_, rfl⟩
        obtain ⟨b2, hb2⟩ : ∃ b2, b2 = wr.heap.size + 1 := ⟨_, rfl⟩
        rw [← hwx] at inva ba bb ⊢
        rw [← hb1] at ba fa
        rw [← hb2] at bb fb
        rw [← hb2, ← hb1]
        have hb12 : b1 ≠ b2 := by omega
        have hwb : w.heap.size < b1 ∧ w.heap.size < b2 := by omega
        clear hwx inv d0 d1 d2 d3 hsz hb1 hb2 hwa hgw
        go_cut [7, 14] (fun vo v wc => v = .int .i64 (codeX o lx ly hx hy Q.1 Q.2) ∧ LInv w wc lx ly hx hy vo xs ∧ Free vo xs b1 ∧ Free vo xs b2 ∧ Blk wc b1 #[.float .f64 (F P.1), .float .f64 (F P.2)] 69 ∧ Blk wc b2 #[.float .f64 (F Q.1), .float .f64 (F Q.2)] 69)
        case first =>
          have e0 : wx.cell? ⟨w.heap.size, 0, none⟩ = some (.float .f64 (F lx)) := inva.box.cell 0
          have e1 : wx.cell? ⟨w.heap.size, 1, none⟩ = some (.float .f64 (F ly)) := inva.box.cell 1
          have e2 : wx.cell? ⟨w.heap.size, 2, none⟩ = some (.float .f64 (F hx)) := inva.box.cell 2
          have e3 : wx.cell? ⟨w.heap.size, 3, none⟩ = some (.float .f64 (F hy)) := inva.box.cell 3
          have q0 : wx.cell? ⟨b2, 0, none⟩ = some (.float .f64 (F Q.1)) := bb.cell 0
          have q1 : wx.cell? ⟨b2, 1, none⟩ = some (.float .f64 (F Q.2)) := bb.cell 1
          cases o
          · go_wp2_with fail
            refine (bitCodeX_any lx ly hx hy Q.1 Q.2 hls.1 hls.2 hhs.1 hhs.2 hQs.1 hQs.2 _).mono ?_
            rintro e w3 ⟨rfl, hb3⟩
            go_wp2_with fail
            go_meet
            exact ⟨rfl, inva.below hb3, fa, fb, ba.below hb3 ba.lt, bb.below hb3 bb.lt⟩
          · go_wp2_with fail
            refine (bitCodeOpen_any lx ly hx hy Q.1 Q.2 hls.1 hls.2 hhs.1 hhs.2 hQs.1 hQs.2 _).mono ?_
            rintro e w3 ⟨rfl, hb3⟩
            go_wp2_with fail
            go_meet
            exact ⟨rfl, inva.below hb3, fa, fb, ba.below hb3 ba.lt, bb.below hb3 bb.lt⟩
        case rest =>
          obtain ⟨rfl, inv, fa, fb, ba, bb⟩ := hcut
          clear inva
          obtain ⟨cE, hcE0⟩ : ∃ cE, cE = codeX o lx ly hx hy Q.1 Q.2 := ⟨_, rfl⟩
          have HE : Hid (cE = codeX o lx ly hx hy Q.1 Q.2) := hcE0
          rw [← hcE0]
          clear hcE0
          have HP : Hid (ptK P d 0 = P ∧ ptK P d N = Q) := ⟨pt_zero P d, hend⟩
          go_wp2_with fail
          go_loopg [7, 8, 9, 14] (N.toNat + 3) (fun m vo vl va vb wq => ∃ (oA oB : Bool) (s t : Int), vl = .int .i64 line ∧ va = .int .i64 (codeX oA lx ly hx hy (ptK P d s).1 (ptK P d s).2) ∧ vb = .int .i64 (codeX oB lx ly hx hy (ptK P d t).1 (ptK P d t).2) ∧ SInv o lx ly hx hy P d N oA oB s t ∧
              segL lx ly hx hy P d m oA oB s t = S ∧ (t - s).toNat + (if oA = true then 1 else 0) + (if oB = true then 1 else 0) < m ∧ LInv w wq lx ly hx hy vo xs ∧ (Free vo xs b1 ∧ Free vo xs b2) ∧
              Blk wq b1 #[.float .f64 (F (ptK P d s).1), .float .f64 (F (ptK P d s).2)] 69 ∧ Blk wq b2 #[.float .f64 (F (ptK P d t).1), .float .f64 (F (ptK P d t).2)] 69)
          case atStart =>
            refine ⟨o, o, 0, N, rfl, by rw [HP.out.1], by rw [HP.out.2, HE.out], inv_start hN, HS.out.symm, ?_, inv, ⟨fa, fb⟩, by rw [HP.out.1]; exact ba, by rw [HP.out.2]; exact bb⟩
            cases o <;> simp <;> omega
          case round =>
            obtain ⟨oA, oB, s, t, rfl, rfl, rfl, sinv, HSx, hfuel, inv2, ⟨fa2, fb2⟩, ba2, bb2⟩ := hrel
            have HS2 : Hid (segL lx ly hx hy P d gk oA oB s t = S) := HSx
            clear HSx inv fa fb ba bb HS
            obtain ⟨m, rfl⟩ : ∃ m, gk = m + 1 := ⟨gk - 1, by omega⟩
            have hsN : Near (ptK P d s) := near_mid hd hPn (by rw [HP.out.2]; exact hQn) sinv.lo (Int.le_trans sinv.st sinv.hi)
            have htN : Near (ptK P d t) := near_mid hd hPn (by rw [HP.out.2]; exact hQn) (Int.le_trans sinv.lo sinv.st) sinv.hi
            have hHS := HS2.out
            rw [segL] at hHS
            have zA := codeX_zero oA lx ly hx hy (ptK P d s).1 (ptK P d s).2
            have zB := codeX_zero oB lx ly hx hy (ptK P d t).1 (ptK P d t).2
            obtain ⟨hor, hand⟩ := bits_zero (acode_cases oA lx hx (ptK P d s).1) (acode_cases oA ly hy (ptK P d s).2) (acode_cases oB lx hx (ptK P d t).1) (acode_cases oB ly hy (ptK P d t).2)
            have hAe : acode oA lx hx (ptK P d s).1 + 4 * acode oA ly hy (ptK P d s).2 = codeX oA lx ly hx hy (ptK P d s).1 (ptK P d s).2 := rfl
            have hBe : acode oB lx hx (ptK P d t).1 + 4 * acode oB ly hy (ptK P d t).2 = codeX oB lx ly hx hy (ptK P d t).1 (ptK P d t).2 := rfl
            rw [hAe, hBe] at hor hand
            have HAe : Hid (acode oA lx hx (ptK P d s).1 + 4 * acode oA ly hy (ptK P d s).2 = codeX oA lx ly hx hy (ptK P d s).1 (ptK P d s).2) := hAe
            have HBe : Hid (acode oB lx hx (ptK P d t).1 + 4 * acode oB ly hy (ptK P d t).2 = codeX oB lx ly hx hy (ptK P d t).1 (ptK P d t).2) := hBe
            clear hAe hBe
            clear HS2
            obtain ⟨cA, hcA0⟩ : ∃ cA, cA = codeX oA lx ly hx hy (ptK P d s).1 (ptK P d s).2 := ⟨_, rfl⟩
            obtain ⟨cB, hcB0⟩ : ∃ cB, cB = codeX oB lx ly hx hy (ptK P d t).1 (ptK P d t).2 := ⟨_, rfl⟩
            rw [← hcA0] at HAe zA hor hand ⊢
            rw [← hcB0] at HBe zB hor hand ⊢
            clear hcA0 hcB0
            obtain ⟨A, hA0⟩ : ∃ A, A = ptK P d s := ⟨_, rfl⟩
            obtain ⟨C, hC0⟩ : ∃ C, C = ptK P d t := ⟨_, rfl⟩
            have HA : Hid (A = ptK P d s ∧ C = ptK P d t) := ⟨hA0, hC0⟩
            rw [← hA0] at hsN ba2 zA hor hand hHS
            rw [← hC0] at htN bb2 zB hor hand hHS
            clear hA0 hC0
            have p0 : wr.cell? ⟨b1, 0, none⟩ = some (.float .f64 (F A.1)) := ba2.cell 0
            have p1 : wr.cell? ⟨b1, 1, none⟩ = some (.float .f64 (F A.2)) := ba2.cell 1
            have q0 : wr.cell? ⟨b2, 0, none⟩ = some (.float .f64 (F C.1)) := bb2.cell 0
            have q1 : wr.cell? ⟨b2, 1, none⟩ = some (.float .f64 (F C.2)) := bb2.cell 1
            have hsz2 := inv2.box.lt
            by_cases h0 : (acode oA lx hx A.1 = 0 ∧ acode oA ly hy A.2 = 0) ∧ (acode oB lx hx C.1 = 0 ∧ acode oB ly hy C.2 = 0)
            · rw [if_pos h0] at hHS
              rw [decide_eq_true h0] at hor
              obtain rfl : cA = 0 := zA.2 h0.1
              obtain rfl : cB = 0 := zB.2 h0.2
              have HV : Hid (segP o lx ly hx hy P Q = some (A, C)) := by show _ = _; rw [HSP.out, ← hHS, HA.out.1, HA.out.2]; rfl
              clear hHS zA zB hand h0 hor
              have hxb2 : ∀ x ∈ xs, x.2.length ≤ 100000 := fun x hx => by have := hxb x hx; omega
              have hmb : ∀ r ∈ xs.map Prod.snd, r.length ≤ 2 * (k + 1) := fun r hr => by
                obtain ⟨x, hx, e⟩ := List.mem_map.1 hr
                rw [← e]; exact hxb x hx
              go_wp2_with fail
              refine (push_any line A _ xs (w.heap.size + 1) _ (by omega) hl1 hl2 (by omega) hxb2 inv2.lines).mono ?_
              rintro e w3 ⟨v3, x3, rfl, hx3, hl3', hb3, hf3⟩
              have inv3 := inv2.push hl3' hb3
              obtain ⟨hk2, fb3⟩ := hf3 b2 bb2.lt fb2
              have bb3 : Blk w3 b2 #[.float .f64 (F C.1), .float .f64 (F C.2)] 69 := hk2.trans bb2
              have hx3l : x3.length = line + 1 := by
                rw [← List.length_map (f := Prod.snd), hx3]
                exact push_len (by rw [List.length_map]; exact hl2) (by rw [List.length_map]; exact hl1)
              have hx3b : ∀ x ∈ x3, x.2.length ≤ 2 * (k + 1) + 1 := fun x hx => push_bd hmb x.2 (by rw [← hx3]; exact List.mem_map_of_mem hx)
              have hx3c : ∀ x ∈ x3, x.2.length ≤ 100000 := fun x hx => by have := hx3b x hx; omega
              have hm3 : ∀ r ∈ x3.map Prod.snd, r.length ≤ 2 * (k + 1) + 1 := fun r hr => by
                obtain ⟨x, hx, e⟩ := List.mem_map.1 hr
                rw [← e]; exact hx3b x hx
              have hq0 : w3.cell? ⟨b2, 0, none⟩ = some (.float .f64 (F C.1)) := bb3.cell 0
              have hq1 : w3.cell? ⟨b2, 1, none⟩ = some (.float .f64 (F C.2)) := bb3.cell 1
              have hsz3 := inv3.box.lt
              have HX3 : Hid (x3.map Prod.snd = pushL (xs.map Prod.snd) line A ∧ x3.length = line + 1) := ⟨hx3, hx3l⟩
              have h3a : line ≤ x3.length := by omega
              have h3b : x3.length ≤ line + 1 := by omega
              clear inv2 hl3' hb3 hf3 p0 p1 q0 q1 ba2 bb2 hk2 hx3 hx3l hmb
              by_cases hE : cE = 0
              · have HE0 : Hid (codeX o lx ly hx hy Q.1 Q.2 = 0) := by rw [← HE.out]; exact hE
                have HE1 : Hid (codeX o lx ly hx hy (ps.getD (k + 1 + 1 - 1) (0, 0)).1 (ps.getD (k + 1 + 1 - 1) (0, 0)).2 = 0) := by rw [EQ.out]; exact HE0.out
                by_cases hL : k + 1 + 1 = ps.length
                · have HW : Hid ((lineR o lx ly hx hy (ps.drop (k + 1 + 1)) Q (pushL (pushL (xs.map Prod.snd) line A) line C, line)).1 = R) := by
                    show _ = _
                    have h := HS0.out
                    unfold stepR at h
                    rw [HV.out] at h
                    simpa only [HE0.out, if_true, decide_eq_true hL] using h
                  subst hE
                  go_wp2_with fail
                  refine (push_any line C _ x3 (w.heap.size + 1) _ (by omega) h3a h3b (by omega) hx3c inv3.lines).mono ?_
                  rintro e w4 ⟨v4, x4, rfl, hx4, hl4, hb4, _⟩
                  have inv4 := inv3.push hl4 hb4
                  have hx4l : x4.length = line + 1 := by
                    rw [← List.length_map (f := Prod.snd), hx4]
                    exact push_len (by rw [List.length_map]; exact h3b) (by rw [List.length_map]; exact h3a)
                  have HX4 : Hid (x4.map Prod.snd = pushL (pushL (xs.map Prod.snd) line A) line C) := by show _ = _; rw [hx4, HX3.out.1]
                  have hx4b : ∀ x ∈ x4, x.2.length ≤ 2 * (k + 1 + 1) := fun x hx => push_bd hm3 x.2 (by rw [← hx4]; exact List.mem_map_of_mem hx)
                  have h4a : line ≤ x4.length ∧ x4.length ≤ line + 1 ∧ line ≤ k + 1 + 1 := by omega
                  clear hx4 hx4l hl4 hb4 inv3
                  go_wp2_with fail
                  go_roundg (mm - 1)
                  case rel => exact ⟨k + 1 + 1, line, x4, by omega, by omega, by go_num, rfl, by rw [HE1.out], by rw [EQ.out, HX4.out]; exact HW.out, inv4, h4a, hx4b⟩
                  case measure => omega
                · have HW : Hid ((lineR o lx ly hx hy (ps.drop (k + 1 + 1)) Q (pushL (xs.map Prod.snd) line A, line)).1 = R) := by
                    show _ = _
                    have h := HS0.out
                    unfold stepR at h
                    rw [HV.out] at h
                    simpa only [HE0.out, if_true, decide_eq_false hL, Bool.false_eq_true, if_false] using h
                  subst hE
                  have h4a : line ≤ x3.length ∧ x3.length ≤ line + 1 ∧ line ≤ k + 1 + 1 := by omega
                  have hx4b : ∀ x ∈ x3, x.2.length ≤ 2 * (k + 1 + 1) := fun x hx => by have := hx3b x hx; omega
                  go_wp2_with fail
                  go_roundg (mm - 1)
                  case rel => exact ⟨k + 1 + 1, line, x3, by omega, by omega, by go_num, rfl, by rw [HE1.out], by rw [EQ.out, HX3.out.1]; exact HW.out, inv3, h4a, hx4b⟩
                  case measure => omega
              · have HE0 : Hid (¬ codeX o lx ly hx hy Q.1 Q.2 = 0) := by show ¬ _; rw [← HE.out]; exact hE
                have HE1 : Hid (codeX o lx ly hx hy (ps.getD (k + 1 + 1 - 1) (0, 0)).1 (ps.getD (k + 1 + 1 - 1) (0, 0)).2 = cE) := by show _ = _; rw [EQ.out]; exact HE.out.symm
                have hEb : ((0 : Int) != cE) = true := by simp; omega
                go_wp2_with fail
                refine (push_any line C _ x3 (w.heap.size + 1) _ (by omega) h3a h3b (by omega) hx3c inv3.lines).mono ?_
                rintro e w4 ⟨v4, x4, rfl, hx4, hl4, hb4, _⟩
                have inv4 := inv3.push hl4 hb4
                have hx4l : x4.length = line + 1 := by
                  rw [← List.length_map (f := Prod.snd), hx4]
                  exact push_len (by rw [List.length_map]; exact h3b) (by rw [List.length_map]; exact h3a)
                have HX4 : Hid (x4.map Prod.snd = pushL (pushL (xs.map Prod.snd) line A) line C) := by show _ = _; rw [hx4, HX3.out.1]
                have hx4b : ∀ x ∈ x4, x.2.length ≤ 2 * (k + 1 + 1) := fun x hx => push_bd hm3 x.2 (by rw [← hx4]; exact List.mem_map_of_mem hx)
                clear hx4 hl4 hb4 inv3
                by_cases hL : k + 1 + 1 = ps.length
                · have HW : Hid ((lineR o lx ly hx hy (ps.drop (k + 1 + 1)) Q (pushL (pushL (xs.map Prod.snd) line A) line C, line)).1 = R) := by
                    show _ = _
                    have h := HS0.out
                    unfold stepR at h
                    rw [HV.out] at h
                    simpa only [HE0.out, if_true, if_false, decide_eq_true hL] using h
                  have h4a : line ≤ x4.length ∧ x4.length ≤ line + 1 ∧ line ≤ k + 1 + 1 := by omega
                  clear hx4l
                  go_wp2_with fail
                  go_roundg (mm - 1)
                  case rel => exact ⟨k + 1 + 1, line, x4, by omega, by omega, by go_num, rfl, by rw [HE1.out], by rw [EQ.out, HX4.out]; exact HW.out, inv4, h4a, hx4b⟩
                  case measure => omega
                · have HW : Hid ((lineR o lx ly hx hy (ps.drop (k + 1 + 1)) Q (pushL (pushL (xs.map Prod.snd) line A) line C, line + 1)).1 = R) := by
                    show _ = _
                    have h := HS0.out
                    unfold stepR at h
                    rw [HV.out] at h
                    simpa only [HE0.out, if_true, if_false, decide_eq_false hL, Bool.false_eq_true] using h
                  have h4a : line + 1 ≤ x4.length ∧ x4.length ≤ line + 1 + 1 ∧ line + 1 ≤ k + 1 + 1 := by omega
                  clear hx4l
                  go_wp2_with fail
                  go_roundg (mm - 1)
                  case rel => exact ⟨k + 1 + 1, line + 1, x4, by omega, by omega, by go_num, by go_num, by rw [HE1.out], by rw [EQ.out, HX4.out]; exact HW.out, inv4, h4a, hx4b⟩
                  case measure => omega
            · rw [if_neg h0] at hHS
              rw [decide_eq_false h0] at hor
              by_cases hb : (acode oA lx hx A.1 = acode oB lx hx C.1 ∧ acode oA lx hx A.1 ≠ 0) ∨ (acode oA ly hy A.2 = acode oB ly hy C.2 ∧ acode oA ly hy A.2 ≠ 0)
              · rw [if_pos hb] at hHS
                rw [decide_eq_true hb] at hand
                have HV : Hid (segP o lx ly hx hy P Q = none) := by show _ = _; rw [HSP.out, ← hHS]; rfl
                have HW : Hid ((lineR o lx ly hx hy (ps.drop (k + 1 + 1)) Q (xs.map Prod.snd, line)).1 = R) := by
                  have h := HS0.out
                  unfold stepR at h
                  rw [HV.out] at h
                  exact h
                clear hHS zA zB h0 hb
                go_wp2_with fail
                go_roundg (mm - 1)
                case rel => exact ⟨k + 1 + 1, line, xs, by omega, by omega, by go_num, rfl, by rw [EQ.out, HE.out], by rw [EQ.out]; exact HW.out, inv2, ⟨hl1, hl2, by omega⟩, fun x hx => by have := hxb x hx; omega⟩
                case measure => omega
              · rw [if_neg hb] at hHS
                rw [decide_eq_false hb] at hand
                have hand2 := hand
                have hb' := hb
                rw [HA.out.1, HA.out.2] at hb'
                have hAq : Hid (cA = codeX oA lx ly hx hy (ptK P d s).1 (ptK P d s).2) := HAe.out.symm
                have hBq : Hid (cB = codeX oB lx ly hx hy (ptK P d t).1 (ptK P d t).2) := HBe.out.symm
                by_cases hZ : acode oA lx hx A.1 = 0 ∧ acode oA ly hy A.2 = 0
                · have hZ' := hZ
                  have hB' : ¬ (acode oB lx hx (ptK P d t).1 = 0 ∧ acode oB ly hy (ptK P d t).2 = 0) := by rw [← HA.out.2]; exact fun h => h0 ⟨hZ, h⟩
                  rw [HA.out.1] at hZ'
                  rw [if_neg (not_not_intro hZ)] at hHS
                  have hcA : cA = 0 := zA.2 hZ
                  clear hb' hZ
                  subst hcA
                  obtain ⟨sinv', hu1, hu2, hst, hit⟩ := sinv.crossB h1 h2 hd hZ' hB'
                  obtain ⟨u, hu⟩ : ∃ u, u = crossK lx ly hx hy P d (acode oB lx hx (ptK P d t).1) (acode oB ly hy (ptK P d t).2) := ⟨_, rfl⟩
                  rw [HA.out.2, ← hu] at hHS
                  rw [← hu] at sinv' hu1 hu2 hit
                  have huN : Near (ptK P d u) := near_mid hd hPn (by rw [HP.out.2]; exact hQn) (Int.le_trans sinv'.lo sinv'.st) sinv'.hi
                  have hI := isectK_any lx ly hx hy P d s t u _ _ hl hh hd hst (acode_cases _ _ _ _) (acode_cases _ _ _ _) hB' (by rw [← HA.out.1]; exact hsN) (by rw [← HA.out.2]; exact htN) huN hit
                  rw [HBe.out, ← HA.out.1, ← HA.out.2] at hI
                  have HC : Hid (segL lx ly hx hy P d m oA false s u = S) := hHS
                  have hm : (u - s).toNat + (if oA = true then 1 else 0) + (if false = true then 1 else 0) < m := by
                    have hle := sinv'.st
                    cases oB with
                    | false => have hlt := hu2 rfl; simp only [Bool.false_eq_true, if_false] at hfuel ⊢; omega
                    | true => simp only [Bool.false_eq_true, if_false, if_true] at hfuel ⊢; omega
                  have HM : Hid ((u - s).toNat + (if oA = true then 1 else 0) + (if false = true then 1 else 0) < m) := hm
                  obtain ⟨U, hU⟩ : ∃ U, U = ptK P d u := ⟨_, rfl⟩
                  rw [← hU] at hI huN
                  have HU : Hid (U = ptK P d u) := hU
                  have hUs := huN.sm
                  have e0 : wr.cell? ⟨w.heap.size, 0, none⟩ = some (.float .f64 (F lx)) := inv2.box.cell 0
                  have e1 : wr.cell? ⟨w.heap.size, 1, none⟩ = some (.float .f64 (F ly)) := inv2.box.cell 1
                  have e2 : wr.cell? ⟨w.heap.size, 2, none⟩ = some (.float .f64 (F hx)) := inv2.box.cell 2
                  have e3 : wr.cell? ⟨w.heap.size, 3, none⟩ = some (.float .f64 (F hy)) := inv2.box.cell 3
                  clear hHS hb h0 zA zB hm hu hU hit hst hu1 hu2 hfuel hZ' hB' hand2
                  go_wp2_with fail
                  refine (hI _).mono ?_
                  rintro e w3 ⟨rfl, hb3⟩
                  have inv3 := inv2.below hb3
                  have ba3 := ba2.below hb3 ba2.lt
                  have bb3 := bb2.below hb3 bb2.lt
                  clear inv2 ba2 bb2 p0 p1 q0 q1 e0 e1 e2 e3 hb3 hI
                  have f0 : w3.frozen? ⟨b2, 0, none⟩ = false := bb3.frozen 0
                  have f1 : w3.frozen? ⟨b2, 1, none⟩ = false := bb3.frozen 1
                  have r0 : w3.cell? ⟨b2, 0, none⟩ = some (.float .f64 (F C.1)) := bb3.cell 0
                  have r1 : w3.cell? ⟨b2, 1, none⟩ = some (.float .f64 (F C.2)) := bb3.cell 1
                  have inv5 := (inv3.set ⟨b2, 0, none⟩ hwb.2 fb2 (.float .f64 (F U.1))).set ⟨b2, 1, none⟩ hwb.2 fb2 (.float .f64 (F U.2))
                  have ba5 := (bb3.set 0 (.float .f64 (F U.1))).set 1 (.float .f64 (F U.2))
                  have bb5 := (ba3.setOther ⟨b2, 0, none⟩ (by exact hb12) (.float .f64 (F U.1))).setOther ⟨b2, 1, none⟩ (by exact hb12) (.float .f64 (F U.2))
                  have ba6 : Blk ((w3.setCell ⟨b2, 0, none⟩ (.float .f64 (F U.1))).setCell ⟨b2, 1, none⟩ (.float .f64 (F U.2))) b2 #[.float .f64 (F U.1), .float .f64 (F U.2)] 69 := ba5
                  have y0 : ((w3.setCell ⟨b2, 0, none⟩ (.float .f64 (F U.1))).setCell ⟨b2, 1, none⟩ (.float .f64 (F U.2))).cell? ⟨b2, 0, none⟩ = some (.float .f64 (F U.1)) := ba6.cell 0
                  have y1 : ((w3.setCell ⟨b2, 0, none⟩ (.float .f64 (F U.1))).setCell ⟨b2, 1, none⟩ (.float .f64 (F U.2))).cell? ⟨b2, 1, none⟩ = some (.float .f64 (F U.2)) := ba6.cell 1
                  have z0 : ((w3.setCell ⟨b2, 0, none⟩ (.float .f64 (F U.1))).setCell ⟨b2, 1, none⟩ (.float .f64 (F U.2))).cell? ⟨w.heap.size, 0, none⟩ = some (.float .f64 (F lx)) := inv5.box.cell 0
                  have z1 : ((w3.setCell ⟨b2, 0, none⟩ (.float .f64 (F U.1))).setCell ⟨b2, 1, none⟩ (.float .f64 (F U.2))).cell? ⟨w.heap.size, 1, none⟩ = some (.float .f64 (F ly)) := inv5.box.cell 1
                  have z2 : ((w3.setCell ⟨b2, 0, none⟩ (.float .f64 (F U.1))).setCell ⟨b2, 1, none⟩ (.float .f64 (F U.2))).cell? ⟨w.heap.size, 2, none⟩ = some (.float .f64 (F hx)) := inv5.box.cell 2
                  have z3 : ((w3.setCell ⟨b2, 0, none⟩ (.float .f64 (F U.1))).setCell ⟨b2, 1, none⟩ (.float .f64 (F U.2))).cell? ⟨w.heap.size, 3, none⟩ = some (.float .f64 (F hy)) := inv5.box.cell 3
                  clear ba5
                  go_wp2_with fail
                  refine (bitCodeX_any lx ly hx hy U.1 U.2 hls.1 hls.2 hhs.1 hhs.2 hUs.1 hUs.2 _).mono ?_
                  rintro e w6 ⟨rfl, hb6⟩
                  have inv6 := inv5.below hb6
                  have ba7 := ba6.below hb6 ba6.lt
                  have bb7 := bb5.below hb6 bb5.lt
                  clear inv5 inv3 ba3 bb3 ba6 bb5 y0 y1 z0 z1 z2 z3 r0 r1 f0 f1 hb6
                  go_wp2_with fail
                  go_roundg m
                  case rel => exact ⟨oA, false, s, u, rfl, by rw [hAq.out], by rw [HU.out], sinv', HC.out, HM.out, inv6, ⟨fa2, fb2⟩, by rw [← HA.out.1]; exact bb7, by rw [← HU.out]; exact ba7⟩
                  case measure => omega
                · have hZ' := hZ
                  rw [HA.out.1] at hZ'
                  rw [if_pos hZ] at hHS
                  have hcA : ¬ cA = 0 := fun h => hZ (zA.1 h)
                  have hcAb : (cA != 0) = true := by simp [hcA]
                  clear hZ
                  obtain ⟨sinv', hu1, hu2, hst, hit⟩ := sinv.crossA h1 h2 hd hb' hZ'
                  obtain ⟨u, hu⟩ : ∃ u, u = crossK lx ly hx hy P d (acode oA lx hx (ptK P d s).1) (acode oA ly hy (ptK P d s).2) := ⟨_, rfl⟩
                  rw [HA.out.1, ← hu] at hHS
                  rw [← hu] at sinv' hu1 hu2 hit
                  have huN : Near (ptK P d u) := near_mid hd hPn (by rw [HP.out.2]; exact hQn) (Int.le_trans sinv.lo hu1) (Int.le_trans sinv'.st sinv'.hi)
                  have hI := isectK_any lx ly hx hy P d s t u _ _ hl hh hd hst (acode_cases _ _ _ _) (acode_cases _ _ _ _) hZ' (by rw [← HA.out.1]; exact hsN) (by rw [← HA.out.2]; exact htN) huN hit
                  rw [HAe.out, ← HA.out.1, ← HA.out.2] at hI
                  have HC : Hid (segL lx ly hx hy P d m false oB u t = S) := hHS
                  have hm : (t - u).toNat + (if false = true then 1 else 0) + (if oB = true then 1 else 0) < m := by
                    have hle := sinv'.st
                    cases oA with
                    | false => have hlt := hu2 rfl; simp only [Bool.false_eq_true, if_false] at hfuel ⊢; omega
                    | true => simp only [Bool.false_eq_true, if_false, if_true] at hfuel ⊢; omega
                  have HM : Hid ((t - u).toNat + (if false = true then 1 else 0) + (if oB = true then 1 else 0) < m) := hm
                  obtain ⟨U, hU⟩ : ∃ U, U = ptK P d u := ⟨_, rfl⟩
                  rw [← hU] at hI huN
                  have HU : Hid (U = ptK P d u) := hU
                  have hUs := huN.sm
                  have e0 : wr.cell? ⟨w.heap.size, 0, none⟩ = some (.float .f64 (F lx)) := inv2.box.cell 0
                  have e1 : wr.cell? ⟨w.heap.size, 1, none⟩ = some (.float .f64 (F ly)) := inv2.box.cell 1
                  have e2 : wr.cell? ⟨w.heap.size, 2, none⟩ = some (.float .f64 (F hx)) := inv2.box.cell 2
                  have e3 : wr.cell? ⟨w.heap.size, 3, none⟩ = some (.float .f64 (F hy)) := inv2.box.cell 3
                  clear hHS hb h0 zA zB hm hu hU hit hst hu1 hu2 hfuel hb' hZ' hand2
                  go_wp2_with fail
                  refine (hI _).mono ?_
                  rintro e w3 ⟨rfl, hb3⟩
                  have inv3 := inv2.below hb3
                  have ba3 := ba2.below hb3 ba2.lt
                  have bb3 := bb2.below hb3 bb2.lt
                  clear inv2 ba2 bb2 p0 p1 q0 q1 e0 e1 e2 e3 hb3 hI
                  have f0 : w3.frozen? ⟨b1, 0, none⟩ = false := ba3.frozen 0
                  have f1 : w3.frozen? ⟨b1, 1, none⟩ = false := ba3.frozen 1
                  have r0 : w3.cell? ⟨b1, 0, none⟩ = some (.float .f64 (F A.1)) := ba3.cell 0
                  have r1 : w3.cell? ⟨b1, 1, none⟩ = some (.float .f64 (F A.2)) := ba3.cell 1
                  have inv5 := (inv3.set ⟨b1, 0, none⟩ hwb.1 fa2 (.float .f64 (F U.1))).set ⟨b1, 1, none⟩ hwb.1 fa2 (.float .f64 (F U.2))
                  have ba5 := (ba3.set 0 (.float .f64 (F U.1))).set 1 (.float .f64 (F U.2))
                  have bb5 := (bb3.setOther ⟨b1, 0, none⟩ (by exact hb12.symm) (.float .f64 (F U.1))).setOther ⟨b1, 1, none⟩ (by exact hb12.symm) (.float .f64 (F U.2))
                  have ba6 : Blk ((w3.setCell ⟨b1, 0, none⟩ (.float .f64 (F U.1))).setCell ⟨b1, 1, none⟩ (.float .f64 (F U.2))) b1 #[.float .f64 (F U.1), .float .f64 (F U.2)] 69 := ba5
                  have y0 : ((w3.setCell ⟨b1, 0, none⟩ (.float .f64 (F U.1))).setCell ⟨b1, 1, none⟩ (.float .f64 (F U.2))).cell? ⟨b1, 0, none⟩ = some (.float .f64 (F U.1)) := ba6.cell 0
                  have y1 : ((w3.setCell ⟨b1, 0, none⟩ (.float .f64 (F U.1))).setCell ⟨b1, 1, none⟩ (.float .f64 (F U.2))).cell? ⟨b1, 1, none⟩ = some (.float .f64 (F U.2)) := ba6.cell 1
                  have z0 : ((w3.setCell ⟨b1, 0, none⟩ (.float .f64 (F U.1))).setCell ⟨b1, 1, none⟩ (.float .f64 (F U.2))).cell? ⟨w.heap.size, 0, none⟩ = some (.float .f64 (F lx)) := inv5.box.cell 0
                  have z1 : ((w3.setCell ⟨b1, 0, none⟩ (.float .f64 (F U.1))).setCell ⟨b1, 1, none⟩ (.float .f64 (F U.2))).cell? ⟨w.heap.size, 1, none⟩ = some (.float .f64 (F ly)) := inv5.box.cell 1
                  have z2 : ((w3.setCell ⟨b1, 0, none⟩ (.float .f64 (F U.1))).setCell ⟨b1, 1, none⟩ (.float .f64 (F U.2))).cell? ⟨w.heap.size, 2, none⟩ = some (.float .f64 (F hx)) := inv5.box.cell 2
                  have z3 : ((w3.setCell ⟨b1, 0, none⟩ (.float .f64 (F U.1))).setCell ⟨b1, 1, none⟩ (.float .f64 (F U.2))).cell? ⟨w.heap.size, 3, none⟩ = some (.float .f64 (F hy)) := inv5.box.cell 3
                  clear ba5
                  go_wp2_with fail
                  refine (bitCodeX_any lx ly hx hy U.1 U.2 hls.1 hls.2 hhs.1 hhs.2 hUs.1 hUs.2 _).mono ?_
                  rintro e w6 ⟨rfl, hb6⟩
                  have inv6 := inv5.below hb6
                  have ba7 := ba6.below hb6 ba6.lt
                  have bb7 := bb5.below hb6 bb5.lt
                  clear inv5 inv3 ba3 bb3 ba6 bb5 y0 y1 z0 z1 z2 z3 r0 r1 f0 f1 hb6
                  go_wp2_with fail
                  go_roundg m
                  case rel => exact ⟨false, oB, u, t, rfl, by rw [HU.out], by rw [hBq.out], sinv', HC.out, HM.out, inv6, ⟨fa2, fb2⟩, by rw [← HU.out]; exact ba7, by rw [← HA.out.2]; exact bb7⟩
                  case measure => omega
      · obtain rfl : i = ps.length := by omega
        have HX : Hid (xs.map Prod.snd = R) := by
          have h := HR.out
          rw [List.drop_length] at h
          exact h
        clear HR
        go_wp2_with fail
        go_ret
        exact ⟨_, xs, rfl, HX.out, inv.lines.mono (Nat.le_succ _), inv.bel, fun x hx => by have := hxb x hx; omega, by omega⟩
theorem line_any (o : Bool) (lx ly hx hy : Int) (hl : Near (lx, ly)) (hh : Near (hx, hy)) (h1 : lx < hx) (h2 : ly < hy) (ao : Option Addr) (cap : Nat) (ps : List (Int × Int)) (B : Nat) (w : World) (hlen : ps.length ≤ 1000) (hn : ∀ p ∈ ps, Near p)
    (hoc : ∀ i (h : i + 1 < ps.length), Octi ps[i] ps[i + 1]) (h : w.ownsRow B 69 2 (.slice ao ps.length cap) ps.length (ps.flatMap ptE)) :
    Calls Try.prog 57 #[.agg #[.float .f64 (F lx), .float .f64 (F ly), .float .f64 (F hx), .float .f64 (F hy)], .slice ao ps.length cap, .bool o] w
      fun e w' => ∃ v xs, e = .returned v ∧ xs.map Prod.snd = lineL o lx ly hx hy ps ∧ RowsAt w' w.heap.size 100 69 ptE v xs ∧ Below w.heap.size w w' ∧ (∀ x ∈ xs, x.2.length ≤ 2000) ∧ xs.length ≤ 1001 :=
  (line_full o lx ly hx hy hl hh h1 h2 ao cap ps B w hlen hn hoc h).mono fun _ _ ⟨v, xs, he, hx', hr, hb⟩ => ⟨v, xs, he, hx', hr.rows, hb⟩
end Go.Proofs.Ytafanlbfbfbeoaa
