/- What the proofs over smartclip lean on, part 30 of 48. -/
import Derived.Test.YtafanlbfbfbeoaaM24

/- A ring, clipped as open lines: its rows; the last is joined with the first, where the ring begins within the box. -/
namespace Go.Proofs.Ytafanlbfbfbeoaa
open Go.RowKit

/-- A point on a line of the box. -/
def OnB (lx ly hx hy : Int) (p : Int × Int) : Prop := p.1 = lx ∨ hx = p.1 ∨ p.2 = ly ∨ hy = p.2

/-- The last row goes on in the first. -/
def joinL (rows : List (List (Int × Int))) : List (List (Int × Int)) := ((rows.getLast!) ++ (rows.head!).tail) :: (rows.tail).dropLast

/-- What is asked of the rows: all end on the box; or the last ends where the first begins, within. -/
structure RowsOk (lx ly hx hy : Int) (rows : List (List (Int × Int))) (jn : Bool) : Prop where
  len : ∀ r ∈ rows, 2 ≤ r.length ∧ r.length ≤ 2000
  sm : ∀ r ∈ rows, ∀ p ∈ r, Sm p.1 ∧ Sm p.2
  few : rows.length ≤ 1000
  pos : 0 < rows.length
  ends : ∀ k (h : k < rows.length), (jn = false ∨ k + 1 < rows.length) → OnB lx ly hx hy (rows[k].getLast!)
  starts : jn = true → ∀ k (h : k < rows.length), 1 ≤ k → OnB lx ly hx hy (rows[k].head!)
  two : jn = true → 2 ≤ rows.length
  inn : jn = true → (lx < (rows.head!.head!).1 ∧ (rows.head!.head!).1 < hx) ∧ ly < (rows.head!.head!).2 ∧ (rows.head!.head!).2 < hy
  meet : jn = true → rows.getLast!.getLast! = rows.head!.head!
  open' : ∀ r ∈ (if jn then joinL rows else rows), r.head! ≠ r.getLast!
  joined : ∀ r ∈ (if jn then joinL rows else rows), 2 ≤ r.length ∧ r.length ≤ 4000 ∧ ∀ p ∈ r, Sm p.1 ∧ Sm p.2

theorem last_at {α : Type} [Inhabited α] (l : List α) (k : Nat) (h : k < l.length) (hk : k + 1 = l.length) : l.getLast! = l[k] := by
  rw [List.getLast!_eq_getLast?_getD, List.getLast?_eq_getElem?, show l.length - 1 = k by omega, List.getElem?_eq_getElem h]
  rfl
theorem own_cap {w : World} {B : Nat} {e : TypeId} {s : Nat} {a : Option Addr} {n cap : Nat} {xs : List Value} (h : w.ownsRow B e s (.slice a n cap) n xs) : n ≤ cap := by
  rcases h.2 with ⟨hv, h0⟩ | ⟨g, cap', cur, hv, _, _, hle, _⟩
  · omega
  · injection hv with e1 e2 e3
    omega
/-- One row of several has grown, and is laid in its place anew. -/
theorem Lines.put {w0 w2 : World} {B gR m capR g2 cap2 k : Nat} {xs : List (Value × List (Int × Int))} {qs : List (Int × Int)} (hln : Lines w0 B (.slice (some ⟨gR, 0, none⟩) m capR) xs) (hm : xs.length = m) (hk : k < xs.length) (hB : B ≤ w0.heap.size)
    (ho2 : w2.ownsRow B 100 1 (.slice (some ⟨gR, 0, none⟩) m capR) m (xs.map Prod.fst)) (hown2 : w2.ownsRow 0 69 2 (.slice (some ⟨g2, 0, none⟩) qs.length cap2) qs.length (qs.flatMap ptE))
    (hgr : w0.grownBy w2 xs[k].1.ownBlock) (hat : xs[k].1.ownBlock = some g2 ∨ g2 = w0.heap.size) (hlt : g2 < w2.heap.size) :
    Lines (w2.setCell ⟨gR, k, none⟩ (.slice (some ⟨g2, 0, none⟩) qs.length cap2)) B (.slice (some ⟨gR, 0, none⟩) m capR) (xs.set k (.slice (some ⟨g2, 0, none⟩) qs.length cap2, qs)) := by
  subst hm
  obtain ⟨st1, st2⟩ := ho2.stored k (.slice (some ⟨g2, 0, none⟩) qs.length cap2)
  have hsz := hgr.size
  have hgty : ∀ (v : Value) (qs : List (Int × Int)), RowAt w2 69 ptE v qs → v.ownBlock ≠ some gR := fun v qs hr e => by
    obtain ⟨_, hc1⟩ := own_block ho2 rfl
    obtain ⟨_, _, hc2⟩ := row_block' hr _ e
    rw [hc1] at hc2
    simp at hc2
  have hset : ∀ (v : Value) (qs' : List (Int × Int)), RowAt w2 69 ptE v qs' → RowAt (w2.setCell ⟨gR, k, none⟩ (.slice (some ⟨g2, 0, none⟩) qs.length cap2)) 69 ptE v qs' := fun v qs' hr =>
    hr.kept st2 fun g hg e => hgty v qs' hr (by rw [hg, e])
  have hpw := List.pairwise_iff_getElem.1 hln.fresh.2
  refine ⟨⟨_, _, by rw [List.length_set], ?_, fun y hy => ?_⟩, ?_⟩
  · rw [List.length_set, List.map_set]
    exact st1
  · obtain ⟨j, hj, rfl⟩ := List.mem_iff_getElem.1 hy
    rw [List.length_set] at hj
    rw [List.getElem_set]
    split
    · exact hset _ _ ⟨_, _, rfl, hown2⟩
    · rename_i hij
      obtain ⟨_, _, _, _, hrows⟩ := hln.rows
      refine hset _ _ ((hrows _ (List.getElem_mem hj)).kept hgr fun g hg e => ?_)
      rcases Nat.lt_or_gt_of_ne hij with h | h
      · exact hpw k j hk hj h g e hg
      · exact hpw j k hj hk h g hg e
  · refine hln.fresh.set hB (by have : (w2.setCell ⟨gR, k, none⟩ (.slice (some ⟨g2, 0, none⟩) qs.length cap2)).heap.size = w2.heap.size := by simp [World.setCell]
                                omega) hk fun g hg => ?_
    have hg : g2 = g := by simpa [Value.ownBlock] using hg
    subst hg
    refine ⟨?_, by simpa [World.setCell] using hlt⟩
    rcases hat with e | e
    · exact .inl e
    · right; omega

theorem own_take {w : World} {B : Nat} {e : TypeId} {s : Nat} {g n cap k : Nat} {xs : List Value} (h : w.ownsRow B e s (.slice (some ⟨g, 0, none⟩) n cap) n xs) (hk : k ≤ n) : w.ownsRow B e s (.slice (some ⟨g, 0, none⟩) k cap) k (xs.take (k * s)) := by
  have hks : k * s ≤ n * s := Nat.mul_le_mul_right _ hk
  refine ⟨by rw [List.length_take, h.1]; omega, ?_⟩
  rcases h.2 with ⟨hv, h0⟩ | ⟨g', cap', cur, hv, h1, h2, h3, h4, h5, h6⟩
  · cases hv
  · injection hv with e1 e2 e3
    injection e1 with e1
    injection e1 with e1
    subst e1 e3
    refine .inr ⟨g, cap, cur, rfl, h1, h2, by omega, h4, h5, ?_⟩
    rw [← h6, List.take_take, Nat.min_eq_left hks]

theorem fold_list {α : Type} (l : List α) (k : Nat) (h : k + 1 = l.length) (h1 : 1 ≤ k) (hk : k < l.length) : (l.set 0 l[k]).take k = l[k] :: l.tail.dropLast := by
  cases l with
  | nil => simp at h
  | cons a t =>
    cases k with
    | zero => omega
    | succ k =>
      simp only [List.set_cons_zero, List.take_succ_cons, List.tail_cons, List.getElem_cons_succ]
      congr 1
      rw [List.dropLast_eq_take]
      congr 1
      simp at h; omega

theorem set_tail_drop {α : Type} (l : List α) (k : Nat) (v : α) (h : k + 1 = l.length) (h1 : 1 ≤ k) : (l.set k v).tail.dropLast = l.tail.dropLast := by
  cases l with
  | nil => rfl
  | cons r rs =>
    cases k with
    | zero => omega
    | succ k =>
      simp only [List.set_cons_succ, List.tail_cons]
      rw [List.dropLast_eq_take, List.dropLast_eq_take, List.length_set, List.take_set_of_le (by simp at h; omega)]

/-- The last of several lines takes the first one's place. -/
theorem Lines.fold {w : World} {B gR m capR k : Nat} {xs : List (Value × List (Int × Int))} (hln : Lines w B (.slice (some ⟨gR, 0, none⟩) m capR) xs) (hm : xs.length = m) (hk : k + 1 = m) (h1 : 1 ≤ k) (hkx : k < xs.length) :
    Lines (w.setCell ⟨gR, 0, none⟩ xs[k].1) B (.slice (some ⟨gR, 0, none⟩) k capR) (xs[k] :: xs.tail.dropLast) ∧ xs[k] :: xs.tail.dropLast = (xs.set 0 xs[k]).take k := by
  have hfl := fold_list xs k (by omega) h1 hkx
  refine ⟨?_, hfl.symm⟩
  obtain ⟨_, _, hv, ho, hrows⟩ := hln.rows
  injection hv with v1 v2 v3
  subst v1 v3
  rw [← v2] at ho
  obtain ⟨st1, st2⟩ := ho.stored 0 xs[k].1
  have hgty : ∀ (v : Value) (qs : List (Int × Int)), RowAt w 69 ptE v qs → v.ownBlock ≠ some gR := fun v qs hr e => by
    obtain ⟨_, hc1⟩ := own_block ho rfl
    obtain ⟨_, _, hc2⟩ := row_block' hr _ e
    rw [hc1] at hc2
    simp at hc2
  have hset : ∀ (v : Value) (qs' : List (Int × Int)), RowAt w 69 ptE v qs' → RowAt (w.setCell ⟨gR, 0, none⟩ xs[k].1) 69 ptE v qs' := fun v qs' hr =>
    hr.kept st2 fun g hg e => hgty v qs' hr (by rw [hg, e])
  have hlen : (xs[k] :: xs.tail.dropLast).length = k := by simp; omega
  have hmem : ∀ y ∈ xs[k] :: xs.tail.dropLast, y ∈ xs := by
    intro y hy
    rcases List.mem_cons.1 hy with rfl | h
    · exact List.getElem_mem _
    · exact List.mem_of_mem_tail (List.dropLast_subset _ h)
  have hpw := List.pairwise_iff_getElem.1 hln.fresh.2
  refine ⟨⟨some ⟨gR, 0, none⟩, capR, by rw [hlen], ?_, fun y hy => hset _ _ (hrows _ (hmem y hy))⟩, fun y hy g hg => ?_, ?_⟩
  · have := own_take st1 (k := k) (by omega)
    rw [hlen, hfl.symm, List.map_take, List.map_set]
    rw [Nat.mul_one] at this
    exact this
  · have := hln.fresh.1 y (hmem y hy) g hg
    have hsz : (w.setCell ⟨gR, 0, none⟩ xs[k].1).heap.size = w.heap.size := by simp [World.setCell]
    omega
  · rw [List.pairwise_cons]
    refine ⟨fun y hy g hg => ?_, ?_⟩
    · obtain ⟨j, hj, rfl⟩ := List.mem_iff_getElem.1 hy
      rw [List.getElem_dropLast, List.getElem_tail]
      rw [List.length_dropLast, List.length_tail] at hj
      intro e
      exact hpw (j + 1) k (by omega) hkx (by omega) g e hg
    · exact (hln.fresh.2.tail).sublist (List.dropLast_sublist _)

/-- A row is laid where it lies. -/
theorem Lines.same {w : World} {B gR m capR k : Nat} {xs : List (Value × List (Int × Int))} (hln : Lines w B (.slice (some ⟨gR, 0, none⟩) m capR) xs) (hk : k < xs.length) :
    Lines (w.setCell ⟨gR, k, none⟩ xs[k].1) B (.slice (some ⟨gR, 0, none⟩) m capR) xs := by
  obtain ⟨_, _, hv, ho, hrows⟩ := hln.rows
  injection hv with v1 v2 v3
  subst v1 v3
  obtain ⟨st1, st2⟩ := ho.stored k xs[k].1
  have hgty : ∀ (v : Value) (qs : List (Int × Int)), RowAt w 69 ptE v qs → v.ownBlock ≠ some gR := fun v qs hr e => by
    obtain ⟨_, hc1⟩ := own_block ho rfl
    obtain ⟨_, _, hc2⟩ := row_block' hr _ e
    rw [hc1] at hc2
    simp at hc2
  have hs : (xs.map Prod.fst).set k xs[k].1 = xs.map Prod.fst := by
    apply List.ext_getElem
    · simp
    · intro j h1 h2
      rw [List.getElem_set]
      split
      · rename_i e; subst e; simp
      · rfl
  rw [hs] at st1
  refine ⟨⟨_, _, by rw [v2], st1, fun y hy => (hrows y hy).kept st2 fun g hg e => hgty y.1 y.2 (hrows y hy) (by rw [hg, e])⟩, fun y hy g hg => ?_, hln.fresh.2⟩
  have := hln.fresh.1 y hy g hg
  have hsz : (w.setCell ⟨gR, k, none⟩ xs[k].1).heap.size = w.heap.size := by simp [World.setCell]
  omega

theorem tail_news {w : World} {gq cap : Nat} {T : TypeId} {r : List (Int × Int)} (h : w.ownsRow 0 T 2 (.slice (some ⟨gq, 0, none⟩) r.length cap) r.length (r.flatMap ptE)) (h1 : 1 ≤ r.length) :
    ∀ j u, (r.tail.flatMap ptE)[j]? = some u → w.cell? ((⟨gq, 2, none⟩ : Addr).add j) = some u := by
  intro j u hj
  cases r with
  | nil => simp at h1
  | cons p t =>
    have hc := h.cells rfl (j + 2) u (by
      rw [List.flatMap_cons, List.getElem?_append_right (by simp [ptE])]
      simpa [ptE] using hj)
    have e1 : (⟨gq, 0, none⟩ : Addr).add (j + 2) = ⟨gq, j + 2, none⟩ := by unfold Addr.add; split <;> simp_all
    have e2 : (⟨gq, 2, none⟩ : Addr).add j = ⟨gq, j + 2, none⟩ := by unfold Addr.add; split <;> simp_all <;> omega
    rw [e1] at hc
    rw [e2]
    exact hc
theorem pts_one {r : List (Int × Int)} : ∀ u ∈ r.flatMap ptE, u.oneCell' = true := by
  intro u hu
  obtain ⟨p, -, hp⟩ := List.mem_flatMap.1 hu
  simp only [ptE, List.mem_cons, List.not_mem_nil, or_false] at hp
  rcases hp with rfl | rfl <;> rfl
theorem head_at {α : Type} [Inhabited α] (l : List α) (h : 0 < l.length) : l.head! = l[0] := by
  cases l with
  | nil => exact absurd h (by simp)
  | cons a l => rfl

set_option maxRecDepth 100000 in
set_option maxHeartbeats 4000000 in
theorem clipRows_any (lx ly hx hy : Int) (hl : Near (lx, ly)) (hh : Near (hx, hy)) (h1 : lx < hx) (h2 : ly < hy) (v rv : Value) (ps : List (Int × Int)) (B : Nat) (w : World) (h4 : 4 ≤ ps.length) (hlen : ps.length ≤ 1000) (hn : ∀ p ∈ ps, Near p)
    (hoc : ∀ i (h : i + 1 < ps.length), Octi ps[i] ps[i + 1]) (he : ps[ps.length - 1] = ps[0]) (rows : List (List (Int × Int))) (jn : Bool) (hR : lineL true lx ly hx hy ps = rows) (hO : RowsOk lx ly hx hy rows jn) (h : RowsAt w B 74 69 ptE v [(rv, ps)]) :
    Calls Try.prog 41 #[.agg #[.float .f64 (F lx), .float .f64 (F ly), .float .f64 (F hx), .float .f64 (F hy)], v] w
      fun e w' => ∃ v1 xs, e = .returned (.tuple #[v1, .slice none 0 0]) ∧ xs.map Prod.snd = (if jn then joinL rows else rows) ∧ Lines w' w.heap.size v1 xs ∧ Below w.heap.size w w' := by
  obtain ⟨ao, cap, g, rfl, hg, hc⟩ := h.read
  obtain ⟨rfl, hgs, _⟩ := hg (by simp)
  obtain ⟨aq, cq, _, c0, ho⟩ := hc 0 (by simp)
  have c0 : w.cell? ⟨g, 0, none⟩ = some (.slice aq ps.length cq) := c0
  have ho : w.ownsRow 0 69 2 (.slice aq ps.length cq) ps.length (ps.flatMap ptE) := ho
  simp only [List.length_cons, List.length_nil, Nat.zero_add]
  clear h hg hc
  obtain ⟨i1, hj, hy0, hy1, hy2⟩ := info_parts Try.info100
  have hls := hl.sm
  have hhs := hh.sm
  have hp0 := (hn ps[0] (List.getElem_mem _)).sm
  have hline := fun go gp W hgo hgl hp hr => lineStringO_full go gp lx ly hx hy hl hh h1 h2 aq cq ps 0 W hlen hn hoc hgo hgl hp hr
  rw [hR] at hline
  have hclo := fun W hr => ringClosed_any aq cq ps 0 W h4 (by omega) hp0 he hr
  have hm0 := hO.pos
  have hm1 := hO.few
  have HO : Hid (RowsOk lx ly hx hy rows jn) := hO
  obtain ⟨J, hJ⟩ : ∃ J, J = (if jn then joinL rows else rows) := ⟨_, rfl⟩
  rw [← hJ]
  have HJ : Hid (J = (if jn then joinL rows else rows)) := hJ
  clear hJ
  clear hR hn hoc hl hh hO he hp0
  go_enter Try.func41, Try.ntmps41
  go_wp2_with fail
  have hb0 := Blk.new w #[.float .f64 (F lx), .float .f64 (F ly), .float .f64 (F hx), .float .f64 (F hy)] 71
  go_loopw [6, 18] (fun v6 vi wr => ∃ (k : Nat), k ≤ 1 ∧ vi = .int .i64 k ∧ Blk wr w.heap.size #[.float .f64 (F lx), .float .f64 (F ly), .float .f64 (F hx), .float .f64 (F hy)] 71 ∧ Below w.heap.size w wr ∧
      ((k = 0 ∧ v6 = .slice none 0 0) ∨ (k = 1 ∧ ∃ xs, xs.map Prod.snd = (if jn then joinL rows else rows) ∧ Lines wr (w.heap.size + 1) v6 xs)))
    (fun _ i _ => 1 - (intOf i).toNat)
  case atStart => exact ⟨0, by omega, rfl, hb0, (Below.refl _ _).alloc (Nat.le_refl _) _, .inl ⟨rfl, rfl⟩⟩
  case round =>
    obtain ⟨k, hk, rfl, hbx, hbel, hcase⟩ := hrel
    rcases hcase with ⟨rfl, rfl⟩ | ⟨rfl, xs, hxs, hln⟩
    · have d0 : wr.cell? ⟨g, 0, none⟩ = some (.slice aq ps.length cq) := (hbel.cell (by exact hgs)).trans c0
      have hor := own_below ho hbel (Nat.le_refl _)
      have e0 : wr.cell? ⟨w.heap.size, 0, none⟩ = some (.float .f64 (F lx)) := hbx.cell 0
      have e1 : wr.cell? ⟨w.heap.size, 1, none⟩ = some (.float .f64 (F ly)) := hbx.cell 1
      have e2 : wr.cell? ⟨w.heap.size, 2, none⟩ = some (.float .f64 (F hx)) := hbx.cell 2
      have e3 : wr.cell? ⟨w.heap.size, 3, none⟩ = some (.float .f64 (F hy)) := hbx.cell 3
      have hcl := fun n => hclo (wr.drewN n) (own_below ho (below_drewN hbel n) (Nat.le_refl _))
      have hclo2 := hclo
      clear hclo hb0
      go_wp2_with fail
      go_quiet ((go_at_call 47; refine Calls.quiet_of (hcl _)))
      go_wp2_with fail
      have HS : Hid (∀ W, Below wr.heap.size wr W → (W.cell? ⟨w.heap.size, 0, none⟩ = some (.float .f64 (F lx)) ∧ W.cell? ⟨w.heap.size, 1, none⟩ = some (.float .f64 (F ly)) ∧ W.cell? ⟨w.heap.size, 2, none⟩ = some (.float .f64 (F hx)) ∧ W.cell? ⟨w.heap.size, 3, none⟩ = some (.float .f64 (F hy)))) :=
        fun W hb => ⟨cell_later hb e0, cell_later hb e1, cell_later hb e2, cell_later hb e3⟩
      have hBq : Below wr.heap.size wr (wr.drewN nq) := below_drewN (Below.refl _ _) _
      go_cut [9] (fun v9 wc => ∃ xs, xs.map Prod.snd = rows ∧ Lines wc (w.heap.size + 1) v9 xs ∧ Below wr.heap.size wr wc)
      case first =>
        -- DONE
        go_region_held3 (fun w' => (w'.cell? ⟨w.heap.size, 0, none⟩ = some (.float .f64 (F lx)) ∧ w'.cell? ⟨w.heap.size, 1, none⟩ = some (.float .f64 (F ly)) ∧ w'.cell? ⟨w.heap.size, 2, none⟩ = some (.float .f64 (F hx)) ∧ w'.cell? ⟨w.heap.size, 3, none⟩ = some (.float .f64 (F hy))))
          ((refine HS.out _ ?_; repeat first | assumption | exact Below.refl _ _ | refine Below.drew ?_ | refine below_drewN ?_ _ | refine below_alloc ?_ _ (Nat.le_refl _)))
          (first
            | (go_at_call 49; refine (openBound_any _).mono ?_; rintro e wA ⟨rfl, hoA, hbA⟩; have hBA : Below wr.heap.size wr wA := below_step (by repeat first | assumption | exact Below.refl _ _ | refine Below.drew ?_ | refine below_drewN ?_ _ | refine below_alloc ?_ _ (Nat.le_refl _)) hbA; have horA := own_below hor hBA (Nat.le_refl _))
            | (go_at_call 48; refine (hline _ _ _ (by first | exact (Blk.new _ _ _).cell 0 | exact (Blk.new _ _ _).drew.cell 0 | exact (Blk.new _ _ _).drew.drew.cell 0) (by first | exact (Blk.new _ _ _).lt | exact (Blk.new _ _ _).drew.lt | exact (Blk.new _ _ _).drew.drew.lt) (by repeat first | exact hoA | refine Blk.drew ?_ | refine Blk.alloc ?_ _) (by repeat first | exact horA | refine World.ownsRow.drew ?_ | refine World.ownsRow.alloc ?_ _)).mono ?_; rintro e wB ⟨vB, xB, rfl, hxB, hrB, hbB, hlB, hnB⟩; have hBB : Below wr.heap.size wr wB := below_step (by repeat first | assumption | exact Below.refl _ _ | refine Below.drew ?_ | refine below_drewN ?_ _ | refine below_alloc ?_ _ (Nat.le_refl _)) hbB; have hrB2 := hrB.mono (B' := wr.heap.size) (Below.size (B := wr.heap.size) (w := wr) (by repeat first | assumption | exact Below.refl _ _ | refine Below.drew ?_ | refine below_drewN ?_ _ | refine below_alloc ?_ _ (Nat.le_refl _)))))
        all_goals go_wp2_with fail
        all_goals go_meet
        all_goals exact ⟨xB, hxB, hrB2.mono (B' := w.heap.size + 1) hbx.lt, hBB⟩
        -- ENOD
      case rest =>
        obtain ⟨xs, hxs, hln, hbc⟩ := hcut
        have hbx2 := hbx.below hbc hbx.lt
        have hB2 := hbel.trans (hbc.mono hbel.size)
        have hor2 := own_below hor hbc (Nat.le_refl _)
        clear hbx hbel hbc hor HS hBq e0 e1 e2 e3 hcl hline d0
        obtain ⟨aoR, capR, hv9, hoR, hrR⟩ := hln.rows
        have HXL : Hid (xs.length = rows.length) := by show _ = _; rw [← hxs, List.length_map]
        rw [HXL.out] at hv9
        subst hv9
        go_upto_if 57 with (first | (go_at_call 47; refine (hclo2 _ hor2).mono ?_; rintro e w3 ⟨rfl, nq3, rfl⟩))
        have hlnz := hln.below (w2 := wc.drewN nq3) (below_drewN (Below.refl _ _) _)
        have hBz := below_drewN hB2 nq3
        have hbz := hbx2.below (w' := wc.drewN nq3) (below_drewN (Below.refl wc.heap.size _) nq3) hbx2.lt
        clear hln hbx2 hB2 hor2 hoR hrR hclo2
        generalize wc.drewN nq3 = wz at *
        go_cut [9] (fun v9 wc => ∃ ys, ys.map Prod.snd = (if jn then joinL rows else rows) ∧ Lines wc (w.heap.size + 1) v9 ys ∧ Below (w.heap.size + 1) wz wc)
        case first =>
          -- DONE
          go_wp2_with fail
          go_loopw [9, 10] (fun v9 vi wr => (∃ k : Nat, k ≤ rows.length ∧ (jn = true → k < rows.length) ∧ vi = .int .i64 k ∧ v9 = .slice aoR rows.length capR ∧ Below wz.heap.size wz wr) ∨
              (jn = true ∧ vi = .int .i64 ((rows.length - 1 : Nat) : Int) ∧ ∃ ys, ys.map Prod.snd = joinL rows ∧ ys.length = rows.length - 1 ∧ Lines wr (w.heap.size + 1) v9 ys ∧ Below (w.heap.size + 1) wz wr))
            (fun v9 vi _ => (match v9 with | .slice _ n _ => n | _ => 0) + 10000 - (intOf vi).toNat)
          case atStart => exact .inl ⟨0, by omega, fun _ => by omega, rfl, rfl, Below.refl _ _⟩
          case round =>
            rcases hrel with ⟨k, hk, hjk, rfl, rfl, hbel⟩ | ⟨hjn, rfl, ys, hys, hyl, hly, hBy⟩
            · by_cases hkm : k = rows.length
              · have hjf : jn = false := by cases jn with | false => rfl | true => exact absurd (hjk rfl) (by omega)
                have hz : ¬ ((k : Int) < (rows.length : Int)) := by omega
                go_wp2_with fail
                go_meet
                exact ⟨xs, by rw [hxs, hjf]; rfl, hlnz.below hbel, hbel.mono hbz.lt⟩
              · have hkl : k < rows.length := by omega
                obtain ⟨_, _, gR, hvR, hgR, hrdR⟩ := hlnz.rows.read
                have hkx : k < xs.length := by rw [HXL.out]; exact hkl
                injection hvR with ev1 ev2 ev3
                subst ev1 ev3
                clear ev2
                obtain ⟨rfl, hgsR, _⟩ := hgR (Nat.lt_of_le_of_lt (Nat.zero_le _) hkx)
                obtain ⟨aqR, cqR, hxv, cR, hoR⟩ := hrdR k hkx
                have hxk : xs[k].2 = rows[k] := by
                  have : (xs.map Prod.snd)[k]? = rows[k]? := by rw [hxs]
                  rw [List.getElem?_map, List.getElem?_eq_getElem hkx, List.getElem?_eq_getElem hkl] at this
                  simpa using this
                rw [hxk] at cR hoR
                obtain ⟨hL2, hL3⟩ := HO.out.len _ (List.getElem_mem hkl)
                have hq0 := HO.out.sm _ (List.getElem_mem hkl) _ (List.getLast_mem (List.ne_nil_of_length_pos (l := rows[k]) (by omega)))
                obtain ⟨L, hL⟩ : ∃ L, L = rows[k].length := ⟨_, rfl⟩
                obtain ⟨gq, hgq, hcq⟩ := pts_read hoR
                obtain ⟨rfl, hgsq, _⟩ := hgq (by omega)
                obtain ⟨cl0, cl1⟩ := hcq (rows[k].length - 1) (by omega)
                rw [← List.getLast_eq_getElem (List.ne_nil_of_length_pos (l := rows[k]) (by omega))] at cl0 cl1
                have hqe : rows[k].getLast! = rows[k].getLast (List.ne_nil_of_length_pos (by omega)) := by
                  rw [List.getLast!_eq_getLast?_getD, List.getLast?_eq_some_getLast (List.ne_nil_of_length_pos (by omega))]; rfl
                obtain ⟨q, hq⟩ : ∃ q, q = rows[k].getLast (List.ne_nil_of_length_pos (l := rows[k]) (by omega)) := ⟨_, rfl⟩
                rw [← hq] at cl0 cl1 hq0 hqe
                rw [← hL] at cl0 cl1 cR hL2 hL3
                have d0 : wr.cell? ⟨gR, k, none⟩ = some (.slice (some ⟨gq, 0, none⟩) L cqR) := (hbel.cell (by exact hgsR)).trans cR
                have d1 : wr.cell? ⟨gq, (L - 1) * 2, none⟩ = some (.float .f64 (F q.1)) := (hbel.cell (by exact hgsq)).trans cl0
                have d2 : wr.cell? ⟨gq, (L - 1) * 2 + 1, none⟩ = some (.float .f64 (F q.2)) := (hbel.cell (by exact hgsq)).trans cl1
                have hbr := hbz.below hbel hbz.lt
                have f0 : wr.cell? ⟨w.heap.size, 0, none⟩ = some (.float .f64 (F lx)) := hbr.cell 0
                have f1 : wr.cell? ⟨w.heap.size, 1, none⟩ = some (.float .f64 (F ly)) := hbr.cell 1
                have f2 : wr.cell? ⟨w.heap.size, 2, none⟩ = some (.float .f64 (F hx)) := hbr.cell 2
                have f3 : wr.cell? ⟨w.heap.size, 3, none⟩ = some (.float .f64 (F hy)) := hbr.cell 3
                have HLq : Hid (L = rows[k].length ∧ rows[k].getLast! = q) := ⟨hL, hqe⟩
                have hkz : (k : Int) < (rows.length : Int) := by omega
                have hgw : gR < wr.heap.size := Nat.lt_of_lt_of_le hgsR hbel.size
                have hgw2 : gq < wr.heap.size := Nat.lt_of_lt_of_le hgsq hbel.size
                have a0 : ∀ o, (wr.alloc o).cell? ⟨gR, k, none⟩ = some (.slice (some ⟨gq, 0, none⟩) L cqR) := fun o => by rw [World.cell?_alloc_past _ _ _ hgw]; exact d0
                have a1 : ∀ o, (wr.alloc o).cell? ⟨gq, (L - 1) * 2, none⟩ = some (.float .f64 (F q.1)) := fun o => by rw [World.cell?_alloc_past _ _ _ hgw2]; exact d1
                have a2 : ∀ o, (wr.alloc o).cell? ⟨gq, (L - 1) * 2 + 1, none⟩ = some (.float .f64 (F q.2)) := fun o => by rw [World.cell?_alloc_past _ _ _ hgw2]; exact d2
                have HKX : Hid ((∃ h : k < xs.length, xs[k].1 = .slice (some ⟨gq, 0, none⟩) L cqR) ∧ wz.cell? ⟨gR, k, none⟩ = some (.slice (some ⟨gq, 0, none⟩) L cqR) ∧ wz.ownsRow 0 69 2 (.slice (some ⟨gq, 0, none⟩) L cqR) L (rows[k].flatMap ptE)) := ⟨⟨hkx, by rw [hxv, hxk, hL]⟩, cR, hL ▸ hoR⟩
                clear hoR hcq hgq hrdR hgR hL hqe hxk hq cl0 cl1 cR hbr hxv hkx
                have hw1 : IntKind.i64.wrap ((L : Int) - 1) = (L : Int) - 1 := IntWalk.i64_in _ (by omega)
                have hw2 : (0 : Int) ≤ (L : Int) - 1 := by omega
                have hw3 : (L : Int) - 1 < (L : Int) := by omega
                have hw4 : (1 : Int) ≤ (L : Int) := by omega
                have ht : ((L : Int) - 1).toNat = L - 1 := by omega
                go_wp2_with fail
                go_cut [11] (fun v11 wc => ∃ b, v11 = .pointer (some ⟨b, 0, none⟩) ∧ b ≠ gR ∧ wr.heap.size ≤ b ∧ Blk wc b #[.float .f64 (F q.1), .float .f64 (F q.2)] 69 ∧ Below wr.heap.size wr wc)
                case first =>
                  --
                  go_region
                  all_goals go_wp2_with fail
                  all_goals go_meet
                  all_goals exact ⟨_, rfl, by omega, Nat.le_refl _, (Blk.new _ _ _).drew, below_drewN (below_alloc (Below.refl _ _) _ (Nat.le_refl _)) 1⟩
                  --
                case rest =>
                  obtain ⟨b, rfl, hbg, hbge, hbq, hbc⟩ := hcut
                  have hB1 := hbel.trans (hbc.mono hbel.size)
                  have g0 : wc.cell? ⟨w.heap.size, 0, none⟩ = some (.float .f64 (F lx)) := cell_later hbc f0
                  have g1 : wc.cell? ⟨w.heap.size, 1, none⟩ = some (.float .f64 (F ly)) := cell_later hbc f1
                  have g2 : wc.cell? ⟨w.heap.size, 2, none⟩ = some (.float .f64 (F hx)) := cell_later hbc f2
                  have g3 : wc.cell? ⟨w.heap.size, 3, none⟩ = some (.float .f64 (F hy)) := cell_later hbc f3
                  have g4 : wc.cell? ⟨b, 0, none⟩ = some (.float .f64 (F q.1)) := hbq.cell 0
                  have g5 : wc.cell? ⟨b, 1, none⟩ = some (.float .f64 (F q.2)) := hbq.cell 1
                  clear f0 f1 f2 f3 d0 d1 d2 hbc hbel a0 a1 a2 hkz
                  by_cases hlast : jn = true ∧ k + 1 = rows.length
                  · obtain ⟨rfl, hke⟩ := hlast
                    have hm2 := HO.out.two rfl
                    have hqh : q = rows.head!.head! := by
                      rw [← HO.out.meet rfl, ← HLq.out.2, last_at rows k hkl hke]
                    have hin := HO.out.inn rfl
                    rw [← hqh] at hin
                    have q0 : decide (q.1 = lx) = false := decide_eq_false (by omega)
                    have q1 : decide (hx = q.1) = false := decide_eq_false (by omega)
                    have q2 : decide (q.2 = ly) = false := decide_eq_false (by omega)
                    have q3 : decide (hy = q.2) = false := decide_eq_false (by omega)
                    obtain ⟨_, _, gR', hvR', hgR', hrdR'⟩ := hlnz.rows.read
                    injection hvR' with ev1 ev2 ev3
                    have h0x : 0 < xs.length := by rw [HXL.out]; omega
                    have egR : gR' = gR := by
                      have := (hgR' h0x).1
                      rw [← ev1] at this
                      cases this; rfl
                    subst egR
                    obtain ⟨aq0, cq0, hxv0, cR0, hoR0⟩ := hrdR' 0 h0x
                    have h0r : 0 < rows.length := by omega
                    have hx0 : xs[0].2 = rows[0] := by
                      have : (xs.map Prod.snd)[0]? = rows[0]? := by rw [hxs]
                      rw [List.getElem?_map, List.getElem?_eq_getElem h0x, List.getElem?_eq_getElem h0r] at this
                      simpa using this
                    rw [hx0] at cR0 hoR0
                    obtain ⟨hM2, hM3⟩ := HO.out.len _ (List.getElem_mem h0r)
                    obtain ⟨gq0, hgq0, hcq0⟩ := pts_read hoR0
                    obtain ⟨rfl, hgsq0, _⟩ := hgq0 (by omega)
                    obtain ⟨cf0, cf1⟩ := hcq0 0 (by omega)
                    have hr0 : rows[0][0] = q := by
                      rw [hqh, head_at rows h0r, head_at _ (by omega)]
                    rw [hr0] at cf0 cf1
                    obtain ⟨M, hM⟩ : ∃ M, M = rows[0].length := ⟨_, rfl⟩
                    rw [← hM] at cR0 hM2 hM3
                    have HR0 : Hid (wz.cell? ⟨gR', 0, none⟩ = some (.slice (some ⟨gq0, 0, none⟩) M cq0) ∧ wz.ownsRow 0 69 2 (.slice (some ⟨gq0, 0, none⟩) M cq0) M (rows[0].flatMap ptE) ∧ M = rows[0].length) := ⟨cR0, hM ▸ hoR0, hM⟩
                    have HQH : Hid (q = rows.head!.head! ∧ k + 1 = rows.length) := ⟨hqh, hke⟩
                    have hgsz : gq0 < wz.heap.size := hgsq0
                    have hgRz : gR' < wz.heap.size := hgsR
                    have s1 := hB1.size
                    have e0 : wc.cell? ⟨gR', 0, none⟩ = some (.slice (some ⟨gq0, 0, none⟩) M cq0) := (hB1.cell (by exact hgRz)).trans cR0
                    have e1 : wc.cell? ⟨gq0, 0, none⟩ = some (.float .f64 (F q.1)) := (hB1.cell (by exact hgsz)).trans cf0
                    have e2 : wc.cell? ⟨gq0, 1, none⟩ = some (.float .f64 (F q.2)) := (hB1.cell (by exact hgsz)).trans cf1
                    clear hin hqh hgR' hrdR' ev1 ev2 ev3 hxv0 cR0 hoR0 hcq0 hgq0 cf0 cf1 hr0 hM hx0 h0x
                    go_wp2_with fail
                    go_loopw [9, 10, 12] (fun v9 v10 v12 wr => (v12 = .int .i64 0 ∧ v10 = .int .i64 k ∧ v9 = .slice (some ⟨gR', 0, none⟩) rows.length capR ∧ Below wc.heap.size wc wr) ∨
                        (∃ (j : Nat) (ys : List (Value × List (Int × Int))) (ay : Option Addr) (cy : Nat), 1 ≤ j ∧ j ≤ k ∧ v12 = .int .i64 j ∧ v10 = .int .i64 ((k : Int) - 1) ∧ v9 = .slice ay k cy ∧ Hid (ys.map Prod.snd = joinL rows ∧ ys.length = k) ∧ Lines wr (w.heap.size + 1) (.slice ay k cy) ys ∧ Blk wr b #[.float .f64 (F q.1), .float .f64 (F q.2)] 69 ∧ Below (w.heap.size + 1) wz wr))
                      (fun _ _ v12 _ => rows.length + 10 - (intOf v12).toNat)
                    case atStart => exact .inl ⟨rfl, rfl, rfl, Below.refl _ _⟩
                    case round =>
                      rcases hrel with ⟨rfl, rfl, rfl, hbr⟩ | ⟨j, ys, ay, cy, hj1, hj2, rfl, rfl, rfl, HYS, hly, hby, hBy⟩
                      · have e0' : wr.cell? ⟨gR', 0, none⟩ = some (.slice (some ⟨gq0, 0, none⟩) M cq0) := cell_later hbr e0
                        have e1' : wr.cell? ⟨gq0, 0, none⟩ = some (.float .f64 (F q.1)) := cell_later hbr e1
                        have e2' : wr.cell? ⟨gq0, 1, none⟩ = some (.float .f64 (F q.2)) := cell_later hbr e2
                        have g4' : wr.cell? ⟨b, 0, none⟩ = some (.float .f64 (F q.1)) := cell_later hbr g4
                        have g5' : wr.cell? ⟨b, 1, none⟩ = some (.float .f64 (F q.2)) := cell_later hbr g5
                        have hkz : ((k : Int) == 0) = false := by simp; omega
                        have hmz : (0 : Int) < (rows.length : Int) := by omega
                        have hMz : (0 : Int) < (M : Int) := by omega
                        clear e0 e1 e2 g4 g5 g0 g1 g2 g3
                        go_wp2_with fail
                        go_quiet (fail)
                        go_wp2_with fail
                        obtain ⟨wr0, hwr0⟩ : ∃ wr0, wr0 = wr.drewN nq := ⟨_, rfl⟩
                        have hbr0 : Below wc.heap.size wc wr0 := by rw [hwr0]; exact below_drewN hbr nq
                        rw [← hwr0]
                        clear hbr e0' e1' e2' g4' g5' hwr0
                        have hbz0 := hB1.trans (hbr0.mono hB1.size)
                        have hln0 : Lines wr0 (w.heap.size + 1) (.slice (some ⟨gR', 0, none⟩) rows.length capR) xs := hlnz.below hbz0
                        have hbq0 := hbq.below hbr0 hbq.lt
                        have hB0 : Below (w.heap.size + 1) wz wr0 := hbz0.mono hbz.lt
                        have HC0 : Hid (wr0.cell? ⟨gR', 0, none⟩ = some (.slice (some ⟨gq0, 0, none⟩) M cq0) ∧ wr0.ownsRow 0 69 2 (.slice (some ⟨gq0, 0, none⟩) M cq0) M (rows[0].flatMap ptE) ∧
                            wr0.cell? ⟨gR', k, none⟩ = some (.slice (some ⟨gq, 0, none⟩) L cqR) ∧ wr0.ownsRow 0 69 2 (.slice (some ⟨gq, 0, none⟩) L cqR) L (rows[k].flatMap ptE)) :=
                          ⟨(hbz0.cell (by exact hgRz)).trans HR0.out.1, own_below HR0.out.2.1 hbz0 (Nat.le_refl _), (hbz0.cell (by exact hgRz)).trans HKX.out.2.1, own_below HKX.out.2.2 hbz0 (Nat.le_refl _)⟩
                        clear hbz0 hbr0
                        go_cut [] (fun w4 => ∃ ys : List (Value × List (Int × Int)), ys.map Prod.snd = rows.set k (rows[k] ++ rows[0].tail) ∧ ys.length = rows.length ∧ Lines w4 (w.heap.size + 1) (.slice (some ⟨gR', 0, none⟩) rows.length capR) ys ∧ Blk w4 b #[.float .f64 (F q.1), .float .f64 (F q.2)] 69 ∧ Below (w.heap.size + 1) wz w4)
                        case first =>
                          --
                          obtain ⟨c0, o0, ck, ok⟩ := HC0.out
                          obtain ⟨i2, hj', hz0, hz1, hz2⟩ := info_parts Try.info69
                          have hfew := hm1
                          obtain ⟨ho1, hrows1⟩ : wr0.ownsRow (w.heap.size + 1) 100 1 (.slice (some ⟨gR', 0, none⟩) rows.length capR) rows.length (xs.map Prod.fst) ∧ ∀ x ∈ xs, RowAt wr0 69 ptE x.1 x.2 := by
                            obtain ⟨_, _, hv, h1, h2⟩ := hln0.rows
                            injection hv with v1 v2 v3
                            subst v1 v3
                            rw [← v2] at h1
                            exact ⟨h1, h2⟩
                          have hgne : some gR' ≠ (Value.slice (some ⟨gq, 0, none⟩) L cqR).ownBlock := fun e => by
                            obtain ⟨_, hc1⟩ := own_block ho1 rfl
                            obtain ⟨_, hc2⟩ := own_block ok e.symm
                            rw [hc1] at hc2
                            simp at hc2
                          have HT : Hid ((∀ j u, (rows[0].tail.flatMap ptE)[j]? = some u → wr0.cell? ((⟨gq0, 2, none⟩ : Addr).add j) = some u) ∧ (rows[0].tail.flatMap ptE).length = (M - 1) * 2) := by
                            refine ⟨tail_news (cap := cq0) (by rw [HR0.out.2.2] at o0; exact o0) (by rw [← HR0.out.2.2]; omega), ?_⟩
                            rw [flat_len ptE 2 (fun _ => rfl), List.length_tail, HR0.out.2.2]
                          have hcq1 : ¬ cq0 = 1 := by
                            have := own_cap o0
                            omega
                          have hmz1 : (1 : Int) ≤ (M : Int) := by omega
                          have hkk : (k : Int) < (rows.length : Int) := by omega
                          go_region_law ((refine step_append_lies _ rfl (.tmp 128) (.tmp 133) 100 rfl 0 69 i2 _ 2 16 Try.underlying100 hj' hz0 hz1 hz2 rfl (by decide) (.slice (some ⟨gq, 0, none⟩) L cqR) L (rows[k].flatMap ptE) (by simp [Act.eval, Act.put]) ok.drew ⟨gq0, 2, none⟩ (M - 1) (cq0 - 1) (rows[0].tail.flatMap ptE) (by simp [Act.eval, Act.put]) HT.out.2 HT.out.1 pts_one (by omega) (by unfold maxLen; omega) (by omega) (Nat.zero_le _) _ rfl ?_; intro g2 cap2 w2 hown2 hgr2 hat2 hlt2; have ho2 := own_grown ho1.drew ok.drew (by decide) hgr2; have hfz2 := ho2.frozenAt k; have hce2 := hgr2.cell (a := ⟨gR', k, none⟩) ck hgne))
                          all_goals go_wp2_with fail
                          all_goals go_meet
                          all_goals
                            obtain ⟨hkx, hxk1⟩ := HKX.out.1
                            have hlen2 : (rows[k] ++ rows[0].tail).length = L + (M - 1) := by rw [List.length_append, List.length_tail, ← HLq.out.1, ← HR0.out.2.2]
                            have hown3 : w2.ownsRow 0 69 2 (.slice (some ⟨g2, 0, none⟩) (rows[k] ++ rows[0].tail).length cap2) (rows[k] ++ rows[0].tail).length ((rows[k] ++ rows[0].tail).flatMap ptE) := by
                              rw [hlen2, List.flatMap_append]; exact hown2
                            have hgr3 : wr0.drew.grownBy w2 xs[k].1.ownBlock := by rw [hxk1]; exact hgr2
                            have hat3 : xs[k].1.ownBlock = some g2 ∨ g2 = wr0.drew.heap.size := by rw [hxk1]; exact hat2
                            have hBr : w.heap.size + 1 ≤ wr0.drew.heap.size := Nat.le_trans hbz.lt hB0.size
                            have hL4 := hln0.drew.put HXL.out hkx hBr ho2 hown3 hgr3 hat3 hlt2
                            rw [hlen2] at hL4
                            have hgB : w.heap.size + 1 ≤ gR' := (ho1.lt gR' rfl).1
                            have hkb : ∀ g, xs[k].1.ownBlock = some g → w.heap.size + 1 ≤ g := fun g hg => (hln0.fresh.1 _ (List.getElem_mem hkx) g hg).1
                            refine ⟨_, ?_, ?_, hL4, ?_, ?_⟩
                            · rw [List.map_set, hxs]
                            · rw [List.length_set, HXL.out]
                            · refine (hbq0.drew.grown hgr2 ?_).setOther _ hbg _
                              intro e
                              have e2 : b = gq := Option.some.inj e
                              have t1 := hgsq
                              have t2 := hbge
                              omega
                            · exact (hB0.drew.grown hgr3 hBr hkb).setCell hgB _
                          --
                        case rest =>
                          obtain ⟨ys, hys, hyl, hly, hby, hBy⟩ := hcut
                          have hkl2 : k < ys.length := by omega
                          have hk1 : 1 ≤ k := by omega
                          obtain ⟨hfo, hfl⟩ := hly.fold hyl hke hk1 hkl2
                          obtain ⟨_, _, gY, hvY, hgY, hrdY⟩ := hly.rows.read
                          injection hvY with ev1 ev2 ev3
                          have egY : gY = gR' := by
                            have := (hgY (by omega)).1
                            rw [← ev1] at this
                            cases this; rfl
                          subst egY
                          obtain ⟨aqy, cqy, hy1, cYk, hjunk1⟩ := hrdY k hkl2
                          obtain ⟨aq1, cq1, hjunk2, cY0, hjunk3⟩ := hrdY 0 (by omega)
                          obtain ⟨v0, hv0⟩ : ∃ v0 : Value, v0 = .slice aq1 (ys[0]'(by omega)).2.length cq1 := ⟨_, rfl⟩
                          rw [← hv0] at cY0
                          obtain ⟨nk, hnk⟩ : ∃ nk, nk = ys[k].2.length := ⟨_, rfl⟩
                          rw [hy1, ← hnk] at hfo
                          rw [← hnk] at cYk
                          have hcapR : rows.length ≤ capR := by
                            obtain ⟨_, _, hv, ho, _⟩ := hly.rows
                            injection hv with v1 v2 v3
                            subst v1 v3
                            rw [← v2] at ho
                            exact own_cap ho
                          have hcz : (k : Int) ≤ (capR : Int) := by omega
                          have hfz : wc.frozen? ⟨gY, 0, none⟩ = false := by
                            obtain ⟨_, _, hv, ho, _⟩ := hly.rows
                            injection hv with v1 v2 v3
                            subst v1 v3
                            exact ho.frozenAt 0
                          have hgB : w.heap.size + 1 ≤ gY := (hgY (by omega)).2.2
                          have HFO : Hid (Lines (wc.setCell ⟨gY, 0, none⟩ (.slice aqy nk cqy)) (w.heap.size + 1) (.slice (some ⟨gY, 0, none⟩) k capR) (ys[k] :: ys.tail.dropLast)) := hfo
                          have HYY : Hid ((ys[k] :: ys.tail.dropLast).map Prod.snd = joinL rows ∧ (ys[k] :: ys.tail.dropLast).length = k) := by
                            refine ⟨?_, by simp; omega⟩
                            rw [hfl, List.map_take, List.map_set, hys]
                            have e1 : ys[k].2 = rows[k] ++ rows[0].tail := by
                              have : (ys.map Prod.snd)[k]? = some (rows[k] ++ rows[0].tail) := by rw [hys, List.getElem?_set_self hkl]
                              rw [List.getElem?_map, List.getElem?_eq_getElem hkl2] at this
                              simpa using this
                            rw [e1]
                            have hs := fold_list (rows.set k (rows[k] ++ rows[0].tail)) k (by rw [List.length_set]; exact hke) hk1 (by rw [List.length_set]; exact hkl)
                            rw [List.getElem_set_self] at hs
                            rw [hs]
                            unfold joinL
                            rw [last_at rows k hkl hke, head_at rows h0r]
                            rw [set_tail_drop rows k _ hke hk1]
                          have hby2 := hby.setOther ⟨gY, 0, none⟩ hbg (.slice aqy nk cqy)
                          have hBy2 := hBy.setCell (p := ⟨gY, 0, none⟩) hgB (.slice aqy nk cqy)
                          have hkk : (k : Int) < (rows.length : Int) := by omega
                          have hke2 : (rows.length : Int) - 1 = (k : Int) := by omega
                          have hm0z : (0 : Int) < (rows.length : Int) := by omega
                          clear hfo hfl hys hgY hrdY ev1 ev2 ev3 hly hby hBy hnk hjunk1 hjunk2 hjunk3 hv0 hy1
                          go_wp2_with fail
                          go_roundw
                          case rel => exact .inr ⟨1, _, some ⟨gY, 0, none⟩, capR, Nat.le_refl _, hk1, by go_num, rfl, rfl, HYY, HFO.out, hby2, hBy2⟩
                          case measure => simp [intOf]
                      · obtain ⟨HY1, HY2⟩ := HYS.out
                        by_cases hjk3 : j = k
                        · have hz : ¬ ((j : Int) < (k : Int)) := by omega
                          go_wp2_with fail
                          go_roundw
                          case rel => exact .inr ⟨trivial, by have := HQH.out.2; congr 1; omega, _, HY1, by have := HQH.out.2; rw [HY2]; omega, hly, hBy⟩
                          case measure =>
                            have := HQH.out.2
                            simp [intOf]
                            omega
                        · have hz : (j : Int) < (k : Int) := by omega
                          by_cases hj4 : j + 1 = k
                          · have hz2 : ((k : Int) - 1 == (j : Int)) = true := by simp; omega
                            go_wp2_with fail
                            go_roundw
                            case rel => exact .inr ⟨j + 1, _, ay, cy, by omega, by omega, by go_num, rfl, rfl, HYS, hly, hby, hBy⟩
                            case measure => simp [intOf]; omega
                          · have hz2 : ((k : Int) - 1 == (j : Int)) = false := by simp; omega
                            have hjy : j < ys.length := by omega
                            have hjr : j < rows.length := by omega
                            have hrj : ys[j].2 = rows[j] := by
                              have h1 : (ys.map Prod.snd)[j]? = (joinL rows)[j]? := by rw [HY1]
                              rw [List.getElem?_map, List.getElem?_eq_getElem hjy] at h1
                              have h2 : (joinL rows)[j]? = some rows[j] := by
                                unfold joinL
                                obtain ⟨i, rfl⟩ : ∃ i, j = i + 1 := ⟨j - 1, by omega⟩
                                have hke3 := HQH.out.2
                                rw [List.getElem?_cons_succ, List.dropLast_eq_take, List.getElem?_take, if_pos (by rw [List.length_tail]; omega), List.getElem?_tail, List.getElem?_eq_getElem hjr]
                              rw [h2] at h1
                              simpa using h1
                            obtain ⟨_, _, gY, hvY, hgY, hrdY⟩ := hly.rows.read
                            injection hvY with ev1 ev2 ev3
                            obtain ⟨hay, hgsY, _⟩ := hgY (by omega)
                            obtain ⟨aqj, cqj, hjunk1, cYj, oYj⟩ := hrdY j hjy
                            rw [hrj] at cYj oYj
                            obtain ⟨hN2, hN3⟩ := HO.out.len _ (List.getElem_mem hjr)
                            obtain ⟨gj, hgj, hcj⟩ := pts_read oYj
                            obtain ⟨rfl, hgsj, _⟩ := hgj (by omega)
                            obtain ⟨cj0, cj1⟩ := hcj 0 (by omega)
                            have hsm := HO.out.sm _ (List.getElem_mem hjr) _ (List.getElem_mem (l := rows[j]) (n := 0) (by omega))
                            have hob := HO.out.starts rfl j hjr hj1
                            rw [head_at rows[j] (by omega)] at hob
                            obtain ⟨p, hp⟩ : ∃ p, p = rows[j][0] := ⟨_, rfl⟩
                            rw [← hp] at cj0 cj1 hsm hob
                            obtain ⟨N, hN⟩ : ∃ N, N = rows[j].length := ⟨_, rfl⟩
                            rw [← hN] at cYj hN2
                            have hNz : (0 : Int) < (N : Int) := by omega
                            have hin2 := HO.out.inn rfl
                            rw [← HQH.out.1] at hin2
                            have hpq : ¬ (p.1 = q.1 ∧ p.2 = q.2) := by
                              unfold OnB at hob
                              omega
                            have h4' : wr.cell? ⟨b, 0, none⟩ = some (.float .f64 (F q.1)) := hby.cell 0
                            have h5' : wr.cell? ⟨b, 1, none⟩ = some (.float .f64 (F q.2)) := hby.cell 1
                            have e1 : ay = some ⟨gY, 0, none⟩ := by rw [← hay]; exact ev1
                            subst e1
                            have hjz0 : (0 : Int) ≤ (j : Int) := by omega
                            clear hob hin2 hjunk1 oYj hcj hgj hgY hrdY ev1 ev2 ev3 hrj hp hN hN3 hay
                            go_wp2_with fail
                            go_quiet (fail)
                            go_wp2_with fail
                            have hbd := below_drewN (Below.refl wr.heap.size wr) nq
                            go_roundw
                            case rel => exact .inr ⟨j + 1, _, some ⟨gY, 0, none⟩, cy, by omega, by omega, by go_num, rfl, rfl, HYS, hly.below hbd, hby.below hbd hby.lt, below_drewN hBy _⟩
                            case measure => simp [intOf]; omega
                  · have hjk2 : jn = true → k + 1 < rows.length := fun h => by
                      have := hjk h
                      rcases Nat.lt_or_ge (k + 1) rows.length with h1 | h1
                      · exact h1
                      · exact absurd ⟨h, by omega⟩ hlast
                    have hob : OnB lx ly hx hy q := by
                      rw [← HLq.out.2]
                      exact HO.out.ends k hkl (by cases jn with | false => exact .inl rfl | true => exact .inr (hjk2 rfl))
                    have h4c : (q.1 = lx) ∨ (q.1 ≠ lx ∧ hx = q.1) ∨ (q.1 ≠ lx ∧ hx ≠ q.1 ∧ q.2 = ly) ∨ (q.1 ≠ lx ∧ hx ≠ q.1 ∧ q.2 ≠ ly ∧ hy = q.2) := by unfold OnB at hob; omega
                    clear hob hlast
                    --
                    rcases h4c with h | ⟨h0, h⟩ | ⟨h0, h', h⟩ | ⟨h0, h', h'', h⟩
                    · have q0 : decide (q.1 = lx) = true := decide_eq_true h
                      clear h
                      go_wp2_with fail
                      go_roundw
                      case rel => exact .inl ⟨k + 1, by omega, hjk2, by go_num, rfl, hB1⟩
                      case measure => simp [intOf]; omega
                    · have q0 : decide (q.1 = lx) = false := decide_eq_false h0
                      have q1 : decide (hx = q.1) = true := decide_eq_true h
                      clear h h0
                      go_wp2_with fail
                      go_roundw
                      case rel => exact .inl ⟨k + 1, by omega, hjk2, by go_num, rfl, hB1⟩
                      case measure => simp [intOf]; omega
                    · have q0 : decide (q.1 = lx) = false := decide_eq_false h0
                      have q1 : decide (hx = q.1) = false := decide_eq_false h'
                      have q2 : decide (q.2 = ly) = true := decide_eq_true h
                      clear h h0 h'
                      go_wp2_with fail
                      go_roundw
                      case rel => exact .inl ⟨k + 1, by omega, hjk2, by go_num, rfl, hB1⟩
                      case measure => simp [intOf]; omega
                    · have q0 : decide (q.1 = lx) = false := decide_eq_false h0
                      have q1 : decide (hx = q.1) = false := decide_eq_false h'
                      have q2 : decide (q.2 = ly) = false := decide_eq_false h''
                      have q3 : decide (hy = q.2) = true := decide_eq_true h
                      clear h h0 h' h''
                      go_wp2_with fail
                      go_roundw
                      case rel => exact .inl ⟨k + 1, by omega, hjk2, by go_num, rfl, hB1⟩
                      case measure => simp [intOf]; omega
                    --
            · obtain ⟨aoy, capy, hvy, hoy, hry⟩ := hly.rows
              rw [hyl] at hvy
              subst hvy
              have HYL : Hid (ys.length = rows.length - 1) := hyl
              clear hyl hoy hry
              go_wp2_with fail
              go_meet
              exact ⟨ys, by rw [hys, hjn]; rfl, hly, hBy⟩
          -- ENOD
        case rest =>
          obtain ⟨ys, hys, hly, hBy⟩ := hcut
          have hB4 : Below w.heap.size w wc := hBz.trans (hBy.mono (Nat.le_succ _))
          have hbx4 := hbz.below hBy (Nat.lt_succ_self _)
          have hyl : 0 < ys.length ∧ ys.length ≤ 1000 := by
            have h1 : ys.length = (if jn then joinL rows else rows).length := by rw [← hys, List.length_map]
            cases jn with
            | false => rw [h1]; exact ⟨hm0, hm1⟩
            | true =>
              rw [h1]
              simp [joinL]
              omega
          obtain ⟨_, _, gY, hvY, hgY, hrdY⟩ := hly.rows.read
          obtain ⟨rfl, hgsY, _⟩ := hgY hyl.1
          subst hvY
          obtain ⟨m, hm⟩ : ∃ m, m = ys.length := ⟨_, rfl⟩
          obtain ⟨_, _, hv, hoY, hrY⟩ := hly.rows
          injection hv with v1 v2 v3
          subst v1
          subst v3
          rw [← hm] at hoY
          rw [← hm] at hyl ⊢
          have HM : Hid (m = ys.length) := hm
          have hmB : w.heap.size + 1 ≤ wc.heap.size := hbx4.lt
          have hu1 : ∀ z ∈ ys.map Prod.fst, z.oneCell' = true := fun z hz => by
            obtain ⟨y, hy, rfl⟩ := List.mem_map.1 hz
            obtain ⟨_, _, h1, _⟩ := hrY y hy
            rw [h1]; rfl
          have hyl1 := hyl.1
          have hyl2 := hyl.2
          clear hgY hrdY v2 hm hBz hbz hlnz hxs hyl
          go_wp2_with (at_builtin; refine wpList_pushAllT rfl (.tmp 152) (.tmp 153) 90 98 rfl 100 Try.underlying98 100 i1 _ 1 24 Try.underlying90 hj hy0 hy1 hy2 rfl (by decide) (by decide) w wc (w.heap.size + 1) (.slice none 0 0) 0 [] rfl (World.ownsRow_nil _ _ _ _) w.heap.size hB4 (Nat.le_succ _) hmB (by omega) (ys.map Prod.fst) _ gY m _ _ hoY (by omega) (by omega) rfl hu1 (Nat.le_refl _) ?_)
          intro g' cap' w5 hown5 hbel5 hgr5 hat5 hlt5
          have HO5 : Hid (w5.ownsRow (w.heap.size + 1) 100 1 (.slice (some ⟨g', 0, none⟩) m cap') m (ys.map Prod.fst)) := hown5
          have hbx5 := hbx4.grown hgr5 (by simp [Value.ownBlock])
          have hly5 : Hid (Lines w5 (w.heap.size + 1) (.slice (some ⟨g', 0, none⟩) m cap') ys) := by
            refine ⟨⟨some ⟨g', 0, none⟩, cap', ?_, ?_, fun y hy => (hrY y hy).kept hgr5 fun g _ => by simp [Value.ownBlock]⟩, ?_, hly.fresh.2⟩
            · rw [HM.out]
            · have := HO5.out
              rw [HM.out] at this
              exact this
            · intro y hy g hg
              have := hly.fresh.1 y hy g hg
              have := hgr5.size
              omega
          clear hown5 hgr5 hat5 hlt5 hbx4 hB4 hly hoY hrY hBy
          go_wp2_with fail
          go_roundw
          case rel => exact ⟨1, by omega, by go_num, hbx5, hbel5, .inr ⟨rfl, ys, hys, hly5.out⟩⟩
          case measure => simp [intOf]
    · have hyl : xs.length = (if jn then joinL rows else rows).length := by rw [← hxs, List.length_map]
      obtain ⟨_, capY, gY, hvY, hgY, hrdY⟩ := hln.rows.read
      have hpos : 0 < xs.length ∧ xs.length ≤ 1000 := by
        cases jn with
        | false => rw [hyl]; exact ⟨hm0, hm1⟩
        | true =>
          have := HO.out.two rfl
          rw [hyl]
          simp [joinL]
          omega
      obtain ⟨rfl, hgsY, hgB⟩ := hgY hpos.1
      subst hvY
      obtain ⟨m, hm⟩ : ∃ m, m = xs.length := ⟨_, rfl⟩
      rw [← hm] at hln hpos ⊢
      have hp1 := hpos.1
      have hp2 := hpos.2
      have HM : Hid (m = xs.length) := hm
      have HXS : Hid (xs.map Prod.snd = J) := hxs.trans HJ.out.symm
      have hgw : gY ≠ w.heap.size := by omega
      have hcapY : m ≤ capY := by
        obtain ⟨_, _, hv, ho, _⟩ := hln.rows
        injection hv with v1 v2 v3
        subst v1 v3
        rw [← v2] at ho
        exact own_cap ho
      clear hgY hrdY hm hyl hxs hclo hline hb0 ho hpos c0
      go_wp2_with fail
      obtain ⟨wz, rfl⟩ : ∃ wz, wz = wr := ⟨_, rfl⟩
      go_loopw [5, 13, 158] (fun v5 v13 vi wr => ∃ k : Nat, k ≤ m ∧ v5 = .slice none 0 0 ∧ v13 = .int .i64 k ∧ vi = .int .i64 k ∧ Lines wr (w.heap.size + 1) (.slice (some ⟨gY, 0, none⟩) m capY) xs ∧ Blk wr w.heap.size #[.float .f64 (F lx), .float .f64 (F ly), .float .f64 (F hx), .float .f64 (F hy)] 71 ∧ Below w.heap.size w wr) (fun _ _ vi _ => m - (intOf vi).toNat)
      case atStart => exact ⟨0, by omega, rfl, rfl, rfl, hln, hbx, hbel⟩
      case round =>
        clear hln hbx hbel
        obtain ⟨k, hk, rfl, rfl, rfl, hln, hbx, hbel⟩ := hrel
        by_cases hkm : k = m
        · have hz : ¬ ((k : Int) < (m : Int)) := by omega
          have hcz : (k : Int) ≤ (capY : Int) := by omega
          subst hkm
          go_wp2_with fail
          go_ret2
          exact ⟨_, rfl, xs, HXS.out, hln.mono (Nat.le_succ _), hbel⟩
        · have hz : (k : Int) < (m : Int) := by omega
          have hkx : k < xs.length := by have := HM.out; omega
          obtain ⟨_, _, gY', hvY, hgY, hrdY⟩ := hln.rows.read
          injection hvY with ev1 ev2 ev3
          obtain ⟨hay, hgsY2, _⟩ := hgY (by omega)
          have egY : gY' = gY := by
            rw [← ev1] at hay
            cases hay; rfl
          subst egY
          obtain ⟨aqk, cqk, hvk, cYk, oYk⟩ := hrdY k hkx
          have hmem : xs[k].2 ∈ J := by rw [← HXS.out]; exact List.mem_map_of_mem (List.getElem_mem hkx)
          rw [HJ.out] at hmem
          have hopn := HO.out.open' _ hmem
          have hok : 2 ≤ xs[k].2.length ∧ xs[k].2.length ≤ 4000 ∧ ∀ p ∈ xs[k].2, Sm p.1 ∧ Sm p.2 := HO.out.joined _ hmem
          obtain ⟨r, hr⟩ : ∃ r, r = xs[k].2 := ⟨_, rfl⟩
          rw [← hr] at hopn hok cYk oYk hvk
          obtain ⟨hr2, hr3, hr4⟩ := hok
          obtain ⟨gk, hgk, hck⟩ := pts_read oYk
          obtain ⟨rfl, hgsk, _⟩ := hgk (by omega)
          obtain ⟨ca0, ca1⟩ := hck 0 (by omega)
          obtain ⟨cb0, cb1⟩ := hck (r.length - 1) (by omega)
          have hsa := hr4 _ (List.getElem_mem (l := r) (n := 0) (by omega))
          have hsb := hr4 _ (List.getElem_mem (l := r) (n := r.length - 1) (by omega))
          rw [head_at r (by omega), last_at r (r.length - 1) (by omega) (by omega)] at hopn
          obtain ⟨p, hp⟩ : ∃ p, p = r[0] := ⟨_, rfl⟩
          obtain ⟨q, hq⟩ : ∃ q, q = r[r.length - 1] := ⟨_, rfl⟩
          rw [← hp] at ca0 ca1 hsa hopn
          rw [← hq] at cb0 cb1 hsb hopn
          obtain ⟨L, hL⟩ : ∃ L, L = r.length := ⟨_, rfl⟩
          rw [← hL] at cb0 cb1 cYk hvk
          have hL2 : 2 ≤ L ∧ L ≤ 4000 := by omega
          have hfz : wr.frozen? ⟨gY', k, none⟩ = false := by
            obtain ⟨_, _, hv, ho, _⟩ := hln.rows
            injection hv with v1 v2 v3
            subst v1 v3
            exact ho.frozenAt k
          have HSAME : Hid (∀ nq, Lines ((wr.drewN nq).setCell ⟨gY', k, none⟩ (.slice (some ⟨gk, 0, none⟩) L cqk)) (w.heap.size + 1) (.slice (some ⟨gY', 0, none⟩) m capY) xs) := fun nq => by
            have hsame := (hln.below (below_drewN (Below.refl wr.heap.size wr) nq)).same hkx
            rw [hvk] at hsame
            exact hsame
          have e0 : wr.cell? ⟨w.heap.size, 0, none⟩ = some (.float .f64 (F lx)) := hbx.cell 0
          have e1 : wr.cell? ⟨w.heap.size, 1, none⟩ = some (.float .f64 (F ly)) := hbx.cell 1
          have e2 : wr.cell? ⟨w.heap.size, 2, none⟩ = some (.float .f64 (F hx)) := hbx.cell 2
          have e3 : wr.cell? ⟨w.heap.size, 3, none⟩ = some (.float .f64 (F hy)) := hbx.cell 3
          have hw1 : IntKind.i64.wrap ((L : Int) - 1) = (L : Int) - 1 := IntWalk.i64_in _ (by omega)
          have hw2 : (0 : Int) ≤ (L : Int) - 1 := by omega
          have hw3 : (L : Int) - 1 < (L : Int) := by omega
          have hw4 : (0 : Int) < (L : Int) := by omega
          have ht : ((L : Int) - 1).toNat = L - 1 := by omega
          have hpq : p.1 ≠ q.1 ∨ (p.1 = q.1 ∧ p.2 ≠ q.2) := by
            by_cases h1 : p.1 = q.1
            · exact .inr ⟨h1, fun h2 => hopn (Prod.ext h1 h2)⟩
            · exact .inl h1
          clear hmem hopn hck hgk hgY hrdY ev1 ev2 ev3 hay hr hr2 hr3 hr4 hp hq hL hvk oYk
          go_wp2_with fail
          rcases hpq with h | ⟨h, h'⟩
          · have dz : decide (p.1 = q.1) = false := decide_eq_false h
            clear h
            go_quiet (fail)
            go_wp2_with fail
            go_roundw
            case rel => exact ⟨k + 1, by omega, rfl, by go_num, by go_num, HSAME.out nq, (hbx.below (below_drewN (Below.refl wr.heap.size wr) nq) hbx.lt).setOther _ (Ne.symm hgw) _, (below_drewN hbel nq).setCell (p := ⟨gY', k, none⟩) (by show w.heap.size ≤ gY'; omega) _⟩
            case measure => simp [intOf]; omega
          · have dz : decide (p.1 = q.1) = true := decide_eq_true h
            have dz2 : decide (p.2 = q.2) = false := decide_eq_false h'
            clear h h'
            go_quiet (fail)
            go_wp2_with fail
            go_roundw
            case rel => exact ⟨k + 1, by omega, rfl, by go_num, by go_num, HSAME.out nq, (hbx.below (below_drewN (Below.refl wr.heap.size wr) nq) hbx.lt).setOther _ (Ne.symm hgw) _, (below_drewN hbel nq).setCell (p := ⟨gY', k, none⟩) (by show w.heap.size ≤ gY'; omega) _⟩
            case measure => simp [intOf]; omega
end Go.Proofs.Ytafanlbfbfbeoaa
