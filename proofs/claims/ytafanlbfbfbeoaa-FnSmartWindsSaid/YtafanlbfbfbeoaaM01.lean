/- What the proofs over smartclip lean on, part 2 of 48. -/
import Derived.Test.YtafanlbfbfbeoaaM00
import Derived.BigRegion
import Derived.OpenShut
import Derived.Deep.RegionHeld3
import Derived.Deep.LoopGhost
import Derived.Deep.DeepCutAuto


namespace Go.Proofs.Ytafanlbfbfbeoaa
open Go.RowKit

theorem Try.info25 : (Try.prog.info? 25).map (fun i => (i.zero, i.size, i.bytes)) = some (some (.agg #[.int .i64 0, .int .i64 0]), 2, 16) := by kernel_rfl
theorem Try.info39 : (Try.prog.info? 39).map (fun i => (i.zero, i.size, i.bytes)) = some (some (.agg #[.float .f64 0, .float .f64 0]), 2, 16) := by kernel_rfl
theorem Try.info69 : (Try.prog.info? 69).map (fun i => (i.zero, i.size, i.bytes)) = some (some (.agg #[.float .f64 0, .float .f64 0]), 2, 16) := by kernel_rfl

def IsRow (k : IntKind) (w : World) (a : Option Addr) (len cap : Nat) (zs : List Int) : Prop :=
  (a = none ∧ len = 0 ∧ cap = 0 ∧ zs = []) ∨
  ∃ x, a = some x ∧ len ≤ cap ∧ cap ≤ maxLen ∧ zs.length = cap ∧ (∀ i, i < zs.length → w.cell? (x.add i) = some (.int k (zs.getD i 0))) ∧ ∀ n ∈ zs, (Lit.int k n).wf = true

def dxL : List Int := [1, 1, 0, -1, -1, -1, 0, 1]
def dyL : List Int := [0, 1, 1, 1, 0, -1, -1, -1]

/-- One move. -/
def moveS (p : Int × Int) (m : Int) : Int × Int := (p.1 + m / 8 * dxL.getD (m % 8).toNat 0, p.2 + m / 8 * dyL.getD (m % 8).toNat 0)

/-- The points of a way. -/
def wayL (p : Int × Int) : List Int → List (Int × Int)
  | [] => [p]
  | m :: ms => p :: wayL (moveS p m) ms

theorem wayL_snoc (p : Int × Int) (ms : List Int) (m : Int) : wayL p (ms ++ [m]) = wayL p ms ++ [moveS (ms.foldl moveS p) m] := by
  induction ms generalizing p with
  | nil => rfl
  | cons a ms ih => simp [wayL, ih]

theorem wayL_length (p : Int × Int) (ms : List Int) : (wayL p ms).length = ms.length + 1 := by
  induction ms generalizing p with
  | nil => rfl
  | cons a ms ih => simp [wayL, ih]

/-- What the loop of Way keeps: the place in its box, the points so far. -/
structure WayInv (w wr : World) (p : Int × Int) (v : Value) (n : Nat) (qs : List (Int × Int)) : Prop where
  box : Blk wr w.heap.size #[.int .i64 p.1, .int .i64 p.2] 25
  row : wr.ownsRow (w.heap.size + 1) 25 2 v n (qs.flatMap spotE)
  bel : Below w.heap.size w wr

theorem WayInv.alloc {w wr : World} {p : Int × Int} {v : Value} {n : Nat} {qs : List (Int × Int)} (h : WayInv w wr p v n qs) (o : Obj) : WayInv w (wr.alloc o) p v n qs :=
  ⟨h.box.alloc o, h.row.alloc o, h.bel.alloc h.bel.size o⟩

theorem WayInv.drew {w wr : World} {p : Int × Int} {v : Value} {n : Nat} {qs : List (Int × Int)} (h : WayInv w wr p v n qs) : WayInv w wr.drew p v n qs :=
  ⟨h.box.drew, h.row.drew, h.bel.drew⟩

theorem WayInv.setX {w wr : World} {p : Int × Int} {v : Value} {n : Nat} {qs : List (Int × Int)} (h : WayInv w wr p v n qs) (x : Int) : WayInv w (wr.setCell ⟨w.heap.size, 0, none⟩ (.int .i64 x)) (x, p.2) v n qs :=
  ⟨h.box.set 0 _, own_setOther h.row _ (by simp) _, h.bel.setCell (Nat.le_refl _) _⟩

theorem WayInv.setY {w wr : World} {p : Int × Int} {v : Value} {n : Nat} {qs : List (Int × Int)} (h : WayInv w wr p v n qs) (y : Int) : WayInv w (wr.setCell ⟨w.heap.size, 1, none⟩ (.int .i64 y)) (p.1, y) v n qs :=
  ⟨h.box.set 1 _, own_setOther h.row _ (by simp) _, h.bel.setCell (Nat.le_refl _) _⟩

theorem u8_cases {m : Int} (h0 : 0 ≤ m) (h1 : m ≤ 255) : bits BinOp.and IntKind.u8 m 7 = m % 8 := by
  have h : ∀ n : Fin 256, bits BinOp.and IntKind.u8 (n.val : Int) 7 = (n.val : Int) % 8 := by decide +kernel
  have := h ⟨m.toNat, by omega⟩
  simpa [Int.toNat_of_nonneg h0] using this

def tblV (l : List Int) : Array Value := (l.map (Value.int .i64)).toArray

theorem tbl_cell (wr : World) (l : List Int) (hl : l.length = 8) (m : Int) (e : TypeId) : (wr.alloc (.cells (tblV l) e)).cell? ⟨wr.heap.size, (m % 8).toNat, none⟩ = some (.int .i64 (l.getD (m % 8).toNat 0)) := by
  have : (m % 8).toNat < l.length := by omega
  rw [(Blk.new wr (tblV l) e).cell]
  simp [tblV, this]

theorem dirs_bd (m : Int) : (-1 ≤ dxL.getD (m % 8).toNat 0 ∧ dxL.getD (m % 8).toNat 0 ≤ 1) ∧ (-1 ≤ dyL.getD (m % 8).toNat 0 ∧ dyL.getD (m % 8).toNat 0 ≤ 1) := by
  have h : ∀ n : Fin 8, (-1 ≤ dxL.getD n.val 0 ∧ dxL.getD n.val 0 ≤ 1) ∧ (-1 ≤ dyL.getD n.val 0 ∧ dyL.getD n.val 0 ≤ 1) := by decide
  exact h ⟨(m % 8).toNat, by omega⟩

theorem mul_bd {q t : Int} (h0 : 0 ≤ q) (h1 : q ≤ 31) (t0 : -1 ≤ t) (t1 : t ≤ 1) : -31 ≤ q * t ∧ q * t ≤ 31 := by
  have : t = -1 ∨ t = 0 ∨ t = 1 := by omega
  rcases this with rfl | rfl | rfl <;> omega

theorem wrap_small {q : Int} (h0 : -9000000000000000000 ≤ q) (h1 : q ≤ 9000000000000000000) : IntKind.i64.wrap q = q := by
  rw [IntKind.wrap_i64]; omega

theorem isRow_len {k : IntKind} {w : World} {ao : Option Addr} {len cap : Nat} {zs : List Int} (hr : IsRow k w ao len cap zs) : len ≤ zs.length := by
  rcases hr with ⟨_, h, _, _⟩ | ⟨x, _, h1, _, h2, _⟩ <;> omega

theorem isRow_get {w : World} {ao : Option Addr} {len cap : Nat} {zs : List Int} (hr : IsRow .u8 w ao len cap zs) (k : Nat) (hk : k < len) :
    ∃ b off, ao = some ⟨b, off, none⟩ ∧ ∃ m : Int, zs[k]? = some m ∧ w.cell? ⟨b, off + k, none⟩ = some (.int .u8 m) ∧ 0 ≤ m ∧ m ≤ 255 := by
  rcases hr with ⟨_, h, _, _⟩ | ⟨x, rfl, h1, h2, h3, h4, h5⟩
  · omega
  · have hkz : k < zs.length := by omega
    obtain ⟨b, off, spot⟩ := x
    have hspot : spot = none := by
      have h0 := h4 0 (by omega)
      simpa [Addr.add] using World.cell?_spot h0
    subst hspot
    have hc := h4 k hkz
    have hz : zs[k]? = some zs[k] := by simp [hkz]
    have hg : zs.getD k 0 = zs[k] := by simp [List.getD, hz]
    have ha : (⟨b, off, none⟩ : Addr).add k = ⟨b, off + k, none⟩ := by unfold Addr.add; split <;> simp_all
    rw [hg, ha] at hc
    have hw := bounds_u8 (h5 zs[k] (List.getElem_mem _))
    exact ⟨b, off, rfl, zs[k], hz, hc, hw.1, hw.2⟩

set_option maxRecDepth 100000 in
set_option maxHeartbeats 2000000 in
theorem way_any (x y : Int) (ao : Option Addr) (len cap : Nat) (zs : List Int) (hx : -128 ≤ x) (hx' : x ≤ 127) (hy : -128 ≤ y) (hy' : y ≤ 127) (w : World) (hr : IsRow .u8 w ao len cap zs) :
    Calls Try.prog 9 #[.int .i8 x, .int .i8 y, .slice ao len cap] w
      fun e w' => ∃ ao' cap', e = .returned (.slice ao' ((zs.take (min len 64)).length + 1) cap') ∧
        w'.ownsRow w.heap.size 25 2 (.slice ao' ((zs.take (min len 64)).length + 1) cap') ((zs.take (min len 64)).length + 1) ((wayL (x, y) (zs.take (min len 64))).flatMap spotE) ∧ Below w.heap.size w w' := by
  obtain ⟨i0, hi, hz0, hz1, hz2⟩ := info_parts Try.info25
  go_enter Try.func9, Try.ntmps9
  go_wp2
  go_loopg [8, 9] 64 (fun mm v i wr => ∃ (k : Nat) (px py : Int) (ao' : Option Addr) (cap' : Nat), mm + k = 64 ∧ k ≤ len ∧ i = .int .i64 k ∧ v = .slice ao' (k + 1) cap' ∧ (px, py) = (zs.take k).foldl moveS (x, y) ∧
      -128 - 31 * (k : Int) ≤ px ∧ px ≤ 128 + 31 * (k : Int) ∧ -128 - 31 * (k : Int) ≤ py ∧ py ≤ 128 + 31 * (k : Int) ∧ WayInv w wr (px, py) (.slice ao' (k + 1) cap') (k + 1) (wayL (x, y) (zs.take k)))
  case atStart =>
    refine ⟨0, x, y, _, 1, by omega, Nat.zero_le _, rfl, rfl, rfl, by omega, by omega, by omega, by omega, ⟨(Blk.new w _ _).alloc _, ?_, ((Below.refl _ _).alloc (Nat.le_refl _) _).alloc (by simp) _⟩⟩
    have h := own_new (w.alloc (.cells #[.int .i64 x, .int .i64 y] 25)) (w.heap.size + 1) (by simp) 25 2 1 [.int .i64 x, .int .i64 y] rfl (by omega)
    simp only [World.size_alloc] at h
    exact h
  case round =>
    obtain ⟨k, px, py, ao', cap', hmk, hk, rfl, rfl, hpp, q0, q1, q2, q3, hinv⟩ := hrel
    by_cases hlt : k < len ∧ k < 64
    · obtain ⟨hlt, hlt'⟩ := hlt
      obtain ⟨b, off, rfl, m, hm0, hm, m0, m1⟩ : ∃ b off, ao = some ⟨b, off, none⟩ ∧ ∃ m : Int, zs[k]? = some m ∧ w.cell? ⟨b, off + k, none⟩ = some (.int .u8 m) ∧ 0 ≤ m ∧ m ≤ 255 := isRow_get hr k hlt
      have HP : Hid ((px, py) = (zs.take k).foldl moveS (x, y)) := hpp
      have HZ : Hid (zs[k]? = some m) := hm0
      clear hpp hm0 hr
      have hme : ∀ {w2 : World}, Below w.heap.size w w2 → w2.cell? ⟨b, off + k, none⟩ = some (.int .u8 m) := fun hb => (hb.cell (World.block_lt_of_cell? _ _ hm)).trans hm
      have mr : bits BinOp.and IntKind.u8 m 7 = m % 8 := u8_cases m0 m1
      have hi0 : (0 : Int) ≤ m % 8 := by omega
      have hi1 : m % 8 < 8 := by omega
      have hlt2 : (0 : Int) ≤ (k : Int) := by omega
      have hlt3 : (k : Int) < (len : Int) := by omega
      have hcm := hme hinv.bel
      obtain ⟨tx, htx⟩ : ∃ tx, tx = dxL.getD (m % 8).toNat 0 := ⟨_, rfl⟩
      obtain ⟨ty, hty⟩ : ∃ ty, ty = dyL.getD (m % 8).toNat 0 := ⟨_, rfl⟩
      have hbd := dirs_bd m
      rw [← htx, ← hty] at hbd
      obtain ⟨bx, bx'⟩ := mul_bd (q := m / 8) (t := tx) (by omega) (by omega) hbd.1.1 hbd.1.2
      obtain ⟨by0, by1⟩ := mul_bd (q := m / 8) (t := ty) (by omega) (by omega) hbd.2.1 hbd.2.2
      obtain ⟨qx, hqx⟩ : ∃ qx, m / 8 * tx = qx := ⟨_, rfl⟩
      obtain ⟨qy, hqy⟩ : ∃ qy, m / 8 * ty = qy := ⟨_, rfl⟩
      rw [hqx] at bx bx'
      rw [hqy] at by0 by1
      have wx : IntKind.i64.wrap (m / 8 * tx) = qx := by rw [hqx]; exact wrap_small (by omega) (by omega)
      have wy : IntKind.i64.wrap (m / 8 * ty) = qy := by rw [hqy]; exact wrap_small (by omega) (by omega)
      have HX : Hid (qx = m / 8 * dxL.getD (m % 8).toNat 0) := by rw [← htx]; exact hqx.symm
      have HY : Hid (qy = m / 8 * dyL.getD (m % 8).toNat 0) := by rw [← hty]; exact hqy.symm
      clear hbd
      go_upto_region 7 with fail
      go_cut [] (fun wc => WayInv w wc (px + qx, py) (.slice ao' (k + 1) cap') (k + 1) (wayL (x, y) (zs.take k)))
      case first =>
        have am : ∀ o, (wr.alloc o).cell? ⟨b, off + k, none⟩ = some (.int .u8 m) := fun o => hme (hinv.alloc o).bel
        have a0 : ∀ o, (wr.alloc o).cell? ⟨w.heap.size, 0, none⟩ = some (.int .i64 px) := fun o => (hinv.alloc o).box.cell 0
        have az0 : ∀ o, (wr.alloc o).frozen? ⟨w.heap.size, 0, none⟩ = false := fun o => (hinv.alloc o).box.frozen 0
        have b0 : wr.cell? ⟨w.heap.size, 0, none⟩ = some (.int .i64 px) := hinv.box.cell 0
        have bz0 : wr.frozen? ⟨w.heap.size, 0, none⟩ = false := hinv.box.frozen 0
        have ht := tbl_cell wr dxL rfl m 3
        rw [← htx] at ht
        simp only [tblV, dxL, List.map_cons, List.map_nil] at ht
        clear hqx hqy htx hty
        go_region
        go_wp2_with fail
        go_meet
        exact ((hinv.alloc _).setX _).drew
      case rest =>
        obtain ⟨w2, rfl⟩ : ∃ w2 : World, w2 = wc := ⟨_, rfl⟩
        have hcut2 := hcut
        clear hcut
        go_wp2_with fail
        go_cut [] (fun wd => WayInv w wd (px + qx, py + qy) (.slice ao' (k + 1) cap') (k + 1) (wayL (x, y) (zs.take k)))
        case first =>
          have hcm2 := hme hcut2.bel
          have am : ∀ o, (w2.alloc o).cell? ⟨b, off + k, none⟩ = some (.int .u8 m) := fun o => hme (hcut2.alloc o).bel
          have a0 : ∀ o, (w2.alloc o).cell? ⟨w.heap.size, 1, none⟩ = some (.int .i64 py) := fun o => (hcut2.alloc o).box.cell 1
          have az0 : ∀ o, (w2.alloc o).frozen? ⟨w.heap.size, 1, none⟩ = false := fun o => (hcut2.alloc o).box.frozen 1
          have b0 : w2.cell? ⟨w.heap.size, 1, none⟩ = some (.int .i64 py) := hcut2.box.cell 1
          have bz0 : w2.frozen? ⟨w.heap.size, 1, none⟩ = false := hcut2.box.frozen 1
          have ht := tbl_cell w2 dyL rfl m 3
          rw [← hty] at ht
          simp only [tblV, dyL, List.map_cons, List.map_nil] at ht
          clear hqx hqy htx hty
          go_region
          go_wp2_with fail
          go_meet
          exact ((hcut2.alloc _).setY _).drew
        case rest =>
          obtain ⟨wd, rfl⟩ : ∃ w2 : World, w2 = wc := ⟨_, rfl⟩
          have c0 : wd.cell? ⟨w.heap.size, 0, none⟩ = some (.int .i64 (px + qx)) := hcut.box.cell 0
          have c1 : wd.cell? ⟨w.heap.size, 1, none⟩ = some (.int .i64 (py + qy)) := hcut.box.cell 1
          have hsz := hcut.bel.size
          have hbx := hcut.box
          have hbl := hbx.lt
          clear hqx hqy htx hty wx wy
          go_wp2_with (at_builtin; refine wpList_push rfl _ _ 29 rfl 25 i0 _ 2 16 Try.underlying29 hi hz0 hz1 hz2 rfl (by decide) (by decide) w _ (w.heap.size + 1) _ (k + 1) _ rfl hcut.row w.heap.size hcut.bel (by omega) (by omega) (by omega) [_, _] _ _ rfl 1 rfl rfl (by simp [Value.oneCell']) ?_)
          intro g' cap'' w1 hown1 hbel1 _ hgr hat _
          have hne : some w.heap.size ≠ Value.ownBlock (.slice ao' (k + 1) cap') := fun e => by have := (hcut.row.lt _ e.symm).1; omega
          have hinv1 : WayInv w w1 (px + qx, py + qy) (.slice (some ⟨g', 0, none⟩) (k + 1 + 1) cap'') (k + 1 + 1) (wayL (x, y) (zs.take (k + 1))) := by
            refine ⟨(hbx.alloc _).grown hgr hne, ?_, hbel1⟩
            have hz := HZ.out
            have hkz : k < zs.length := (List.getElem?_eq_some_iff.1 hz).1
            have hzm : zs[k] = m := (List.getElem?_eq_some_iff.1 hz).2
            rw [List.take_succ_eq_append_getElem hkz, hzm, wayL_snoc, ← HP.out, List.flatMap_append]
            have hm' : moveS (px, py) m = (px + qx, py + qy) := by unfold moveS; rw [← HX.out, ← HY.out]
            rw [hm']
            simpa [spotE] using hown1
          have hp1 : Hid ((px + qx, py + qy) = (zs.take (k + 1)).foldl moveS (x, y)) := by
            have hz := HZ.out
            have hkz : k < zs.length := (List.getElem?_eq_some_iff.1 hz).1
            have hzm : zs[k] = m := (List.getElem?_eq_some_iff.1 hz).2
            show _ = _
            rw [List.take_succ_eq_append_getElem hkz, hzm, List.foldl_append, ← HP.out]
            unfold moveS
            rw [HX.out, HY.out]; rfl
          clear hown1 hcut hgr hat hne c0 c1 hbx hinv hme
          go_wp2
          go_roundg (64 - (k + 1))
          case measure => omega
          case rel => exact ⟨k + 1, _, _, _, _, by omega, by omega, by go_num, rfl, hp1.out, by omega, by omega, by omega, by omega, hinv1⟩
    · have hlen : k = (zs.take (min len 64)).length ∧ zs.take k = zs.take (min len 64) := by
        have hz := isRow_len hr
        have hkm : k = min len 64 := by omega
        exact ⟨by rw [List.length_take]; omega, by rw [hkm]⟩
      have hfin : wr.ownsRow w.heap.size 25 2 (.slice ao' (k + 1) cap') (k + 1) ((wayL (x, y) (zs.take (min len 64))).flatMap spotE) := by
        rw [← hlen.2]; exact own_mono hinv.row (by omega)
      have hbel := hinv.bel
      have HL : Hid (k = (zs.take (min len 64)).length) := hlen.1
      clear hlen hinv hpp
      by_cases hlt1 : k < len
      · have hlt2 : ¬ k < 64 := fun h => hlt ⟨hlt1, h⟩
        clear hlt
        go_wp2
        go_ret
        rw [← HL.out]
        exact ⟨_, _, rfl, hfin, hbel⟩
      · clear hlt
        go_wp2
        go_ret
        rw [← HL.out]
        exact ⟨_, _, rfl, hfin, hbel⟩
end Go.Proofs.Ytafanlbfbfbeoaa

/- How far a way goes. -/
namespace Go.Proofs.Ytafanlbfbfbeoaa
open Go.RowKit

theorem move_bd (p : Int × Int) (m C : Int) (h0 : 0 ≤ m) (h1 : m ≤ 255) (hp : (-C ≤ p.1 ∧ p.1 ≤ C) ∧ (-C ≤ p.2 ∧ p.2 ≤ C)) :
    (-(C + 31) ≤ (moveS p m).1 ∧ (moveS p m).1 ≤ C + 31) ∧ (-(C + 31) ≤ (moveS p m).2 ∧ (moveS p m).2 ≤ C + 31) := by
  have hbd := dirs_bd m
  have hx := mul_bd (q := m / 8) (t := dxL.getD (m % 8).toNat 0) (by omega) (by omega) hbd.1.1 hbd.1.2
  have hy := mul_bd (q := m / 8) (t := dyL.getD (m % 8).toNat 0) (by omega) (by omega) hbd.2.1 hbd.2.2
  unfold moveS
  simp only
  omega

theorem wayL_bd (ms : List Int) : ∀ (p : Int × Int) (C : Int), (∀ m ∈ ms, 0 ≤ m ∧ m ≤ 255) → (-C ≤ p.1 ∧ p.1 ≤ C) ∧ (-C ≤ p.2 ∧ p.2 ≤ C) →
    ∀ q ∈ wayL p ms, (-(C + 31 * ms.length) ≤ q.1 ∧ q.1 ≤ C + 31 * ms.length) ∧ (-(C + 31 * ms.length) ≤ q.2 ∧ q.2 ≤ C + 31 * ms.length) := by
  induction ms with
  | nil =>
    intro p C _ hp q hq
    simp [wayL] at hq
    subst hq
    simpa using hp
  | cons m ms ih =>
    intro p C hm hp q hq
    have hm0 := hm m (by simp)
    simp only [wayL, List.mem_cons] at hq
    rcases hq with rfl | hq
    · simp only [List.length_cons]; omega
    · have := ih (moveS p m) (C + 31) (fun x hx => hm x (by simp [hx])) (move_bd p m C hm0.1 hm0.2 hp) q hq
      simp only [List.length_cons]; omega

/-- The moves of a way. -/
def movesL (len : Nat) (zs : List Int) : List Int := zs.take (min len 64)

theorem movesL_bd {w : World} {ao : Option Addr} {len cap : Nat} {zs : List Int} (hr : IsRow .u8 w ao len cap zs) : ∀ m ∈ movesL len zs, 0 ≤ m ∧ m ≤ 255 := by
  intro m hm
  have hm' : m ∈ zs := List.mem_of_mem_take hm
  rcases hr with ⟨_, _, _, rfl⟩ | ⟨x, _, _, _, _, _, h5⟩
  · simp at hm'
  · exact bounds_u8 (h5 m hm')

theorem movesL_length (len : Nat) (zs : List Int) : (movesL len zs).length ≤ 64 := by
  unfold movesL; rw [List.length_take]; omega

/-- A point of a way is not far off. -/
def Near (p : Int × Int) : Prop := (-3000 ≤ p.1 ∧ p.1 ≤ 3000) ∧ (-3000 ≤ p.2 ∧ p.2 ≤ 3000)

theorem Near.sm {p : Int × Int} (h : Near p) : Sm p.1 ∧ Sm p.2 := ⟨⟨by have := h.1.1; omega, by have := h.1.2; omega⟩, ⟨by have := h.2.1; omega, by have := h.2.2; omega⟩⟩

theorem way_near {w : World} {ao : Option Addr} {len cap : Nat} {zs : List Int} (hr : IsRow .u8 w ao len cap zs) {x y : Int} (hx : -128 ≤ x) (hx' : x ≤ 127) (hy : -128 ≤ y) (hy' : y ≤ 127) :
    ∀ p ∈ wayL (x, y) (movesL len zs), Near p := by
  intro p hp
  have h := wayL_bd (movesL len zs) (x, y) 128 (movesL_bd hr) ⟨⟨by simp; omega, by simp; omega⟩, ⟨by simp; omega, by simp; omega⟩⟩ p hp
  have hl := movesL_length len zs
  unfold Near
  omega

theorem way_walk (x y : Int) (ao : Option Addr) (len cap : Nat) (zs : List Int) (hx : -128 ≤ x) (hx' : x ≤ 127) (hy : -128 ≤ y) (hy' : y ≤ 127) (w : World) (hr : IsRow .u8 w ao len cap zs) :
    Calls Try.prog 9 #[.int .i8 x, .int .i8 y, .slice ao len cap] w
      fun e w' => ∃ ao' cap' ps, e = .returned (.slice ao' ps.length cap') ∧ ps = wayL (x, y) (movesL len zs) ∧ 0 < ps.length ∧ ps.length ≤ 65 ∧ (∀ p ∈ ps, Near p) ∧
        w'.ownsRow w.heap.size 25 2 (.slice ao' ps.length cap') ps.length (ps.flatMap spotE) ∧ Below w.heap.size w w' := by
  refine (way_any x y ao len cap zs hx hx' hy hy' w hr).mono ?_
  rintro e w' ⟨ao', cap', rfl, hown, hbel⟩
  have hl := wayL_length (x, y) (movesL len zs)
  have hm := movesL_length len zs
  refine ⟨ao', cap', wayL (x, y) (movesL len zs), by rw [hl]; rfl, rfl, by omega, by omega, way_near hr hx hx' hy hy', by rw [hl]; exact hown, hbel⟩

theorem IsRow.below {k : IntKind} {w w' : World} {ao : Option Addr} {len cap : Nat} {zs : List Int} (hr : IsRow k w ao len cap zs) (hb : Below w.heap.size w w') : IsRow k w' ao len cap zs := by
  rcases hr with h | ⟨x, h0, h1, h2, h3, h4, h5⟩
  · exact .inl h
  · exact .inr ⟨x, h0, h1, h2, h3, fun i hi => (hb.cell (World.block_lt_of_cell? _ _ (h4 i hi))).trans (h4 i hi), h5⟩

/-- The box of four numbers is not far off, and at least one wide and high. -/
theorem BoxOk.near {a b c d lx ly hx hy : Int} (h : BoxOk a b c d lx ly hx hy) (ha : -128 ≤ a) (ha' : a ≤ 127) (hb : -128 ≤ b) (hb' : b ≤ 127) (hc : -128 ≤ c) (hc' : c ≤ 127) (hd : -128 ≤ d) (hd' : d ≤ 127) :
    (-128 ≤ lx ∧ lx < hx ∧ hx ≤ 128) ∧ (-128 ≤ ly ∧ ly < hy ∧ hy ≤ 128) := by
  unfold BoxOk at h
  omega
end Go.Proofs.Ytafanlbfbfbeoaa

/- The conversions of lists: whole points to points of the package and back. -/
namespace Go.Proofs.Ytafanlbfbfbeoaa
open Go.RowKit

theorem take_snoc_flat {α : Type} (enc : α → List Value) (ps : List α) (k : Nat) (hk : k < ps.length) : (ps.take k).flatMap enc ++ enc ps[k] = (ps.take (k + 1)).flatMap enc := by
  rw [List.take_succ_eq_append_getElem hk, List.flatMap_append]; simp

set_option maxRecDepth 100000 in
set_option maxHeartbeats 400000 in
theorem specPoints_any (ao : Option Addr) (cap : Nat) (ps : List (Int × Int)) (B : Nat) (w : World) (hl : ps.length ≤ 100000000) (h : w.ownsRow B 25 2 (.slice ao ps.length cap) ps.length (ps.flatMap spotE)) :
    Calls Try.prog 15 #[.slice ao ps.length cap] w fun e w' => ∃ ao' cap', e = .returned (.slice ao' ps.length cap') ∧ w'.ownsRow w.heap.size 39 2 (.slice ao' ps.length cap') ps.length (ps.flatMap ptE) ∧ Below w.heap.size w w' := by
  obtain ⟨i0, hi, hz0, hz1, hz2⟩ := info_parts Try.info39
  obtain ⟨g, hg, hc⟩ := spots_read h
  clear h
  go_enter Try.func15, Try.ntmps15
  go_wp2
  go_loopw [3, 9] (fun v i wr => ∃ (k : Nat) (ao' : Option Addr) (cap' : Nat), k ≤ ps.length ∧ i = .int .i64 k ∧ v = .slice ao' k cap' ∧ wr.ownsRow w.heap.size 39 2 (.slice ao' k cap') k ((ps.take k).flatMap ptE) ∧ Below w.heap.size w wr)
    (fun _ i _ => ps.length - (intOf i).toNat)
  case atStart => exact ⟨0, _, _, Nat.zero_le _, rfl, rfl, own_new w _ (Nat.le_refl _) 39 2 0 [] rfl (by omega), (Below.refl _ _).alloc (Nat.le_refl _) _⟩
  case round =>
    obtain ⟨k, ao', cap', hk, rfl, rfl, hown, hbel⟩ := hrel
    have hsz := hbel.size
    by_cases hlt : k < ps.length
    · obtain ⟨rfl, hgs, _⟩ := hg (by omega)
      obtain ⟨c0, c1⟩ := hc k hlt
      have d0 : wr.cell? ⟨g, k * 2, none⟩ = some (.int .i64 ps[k].1) := (hbel.cell (by exact hgs)).trans c0
      have d1 : wr.cell? ⟨g, k * 2 + 1, none⟩ = some (.int .i64 ps[k].2) := (hbel.cell (by exact hgs)).trans c1
      clear c0 c1 hg hc
      go_wp2_with (at_builtin; refine wpList_push rfl _ _ 43 rfl 39 i0 _ 2 16 Try.underlying43 hi hz0 hz1 hz2 rfl (by decide) (by decide) w _ w.heap.size _ k _ rfl (hown.alloc _) w.heap.size (below_alloc hbel _ (Nat.le_refl _)) (Nat.le_refl _) (by simp; omega) (by omega) [_, _] _ _ (by simp) 1 rfl rfl (by simp [Value.oneCell']) ?_)
      intro g' cap'' w1 hown1 hbel1 _ _ _ _
      have hown2 : w1.ownsRow w.heap.size 39 2 (.slice (some ⟨g', 0, none⟩) (k + 1) cap'') (k + 1) ((ps.take (k + 1)).flatMap ptE) := by rw [← take_snoc_flat ptE ps k hlt]; exact hown1
      clear hown1 hown d0 d1
      go_wp2
      go_roundw
      case rel => exact ⟨k + 1, _, _, by omega, by go_num, rfl, hown2, hbel1⟩
      case measure => simp [intOf]; omega
    · obtain rfl : k = ps.length := by omega
      rw [List.take_length] at hown
      go_wp2
      go_ret
      exact ⟨_, _, rfl, hown, hbel⟩

set_option maxRecDepth 100000 in
set_option maxHeartbeats 400000 in
theorem points_any (ao : Option Addr) (cap : Nat) (ps : List (Int × Int)) (B : Nat) (w : World) (hl : ps.length ≤ 100000000) (h : w.ownsRow B 39 2 (.slice ao ps.length cap) ps.length (ps.flatMap ptE)) :
    Calls Try.prog 29 #[.slice ao ps.length cap] w fun e w' => ∃ ao' cap', e = .returned (.slice ao' ps.length cap') ∧ w'.ownsRow w.heap.size 69 2 (.slice ao' ps.length cap') ps.length (ps.flatMap ptE) ∧ Below w.heap.size w w' := by
  obtain ⟨i0, hi, hz0, hz1, hz2⟩ := info_parts Try.info69
  obtain ⟨g, hg, hc⟩ := pts_read h
  clear h
  go_enter Try.func29, Try.ntmps29
  go_wp2
  go_loopw [3, 9] (fun v i wr => ∃ (k : Nat) (ao' : Option Addr) (cap' : Nat), k ≤ ps.length ∧ i = .int .i64 k ∧ v = .slice ao' k cap' ∧ wr.ownsRow w.heap.size 69 2 (.slice ao' k cap') k ((ps.take k).flatMap ptE) ∧ Below w.heap.size w wr)
    (fun _ i _ => ps.length - (intOf i).toNat)
  case atStart => exact ⟨0, _, _, Nat.zero_le _, rfl, rfl, own_new w _ (Nat.le_refl _) 69 2 0 [] rfl (by omega), (Below.refl _ _).alloc (Nat.le_refl _) _⟩
  case round =>
    obtain ⟨k, ao', cap', hk, rfl, rfl, hown, hbel⟩ := hrel
    have hsz := hbel.size
    by_cases hlt : k < ps.length
    · obtain ⟨rfl, hgs, _⟩ := hg (by omega)
      obtain ⟨c0, c1⟩ := hc k hlt
      have d0 : wr.cell? ⟨g, k * 2, none⟩ = some (.float .f64 (F ps[k].1)) := (hbel.cell (by exact hgs)).trans c0
      have d1 : wr.cell? ⟨g, k * 2 + 1, none⟩ = some (.float .f64 (F ps[k].2)) := (hbel.cell (by exact hgs)).trans c1
      clear c0 c1 hg hc
      go_wp2_with (at_builtin; refine wpList_push rfl _ _ 73 rfl 69 i0 _ 2 16 Try.underlying73 hi hz0 hz1 hz2 rfl (by decide) (by decide) w _ w.heap.size _ k _ rfl (hown.alloc _) w.heap.size (below_alloc hbel _ (Nat.le_refl _)) (Nat.le_refl _) (by simp; omega) (by omega) [_, _] _ _ (by simp) 1 rfl rfl (by simp [Value.oneCell']) ?_)
      intro g' cap'' w1 hown1 hbel1 _ _ _ _
      have hown2 : w1.ownsRow w.heap.size 69 2 (.slice (some ⟨g', 0, none⟩) (k + 1) cap'') (k + 1) ((ps.take (k + 1)).flatMap ptE) := by rw [← take_snoc_flat ptE ps k hlt]; exact hown1
      clear hown1 hown d0 d1
      go_wp2
      go_roundw
      case rel => exact ⟨k + 1, _, _, by omega, by go_num, rfl, hown2, hbel1⟩
      case measure => simp [intOf]; omega
    · obtain rfl : k = ps.length := by omega
      rw [List.take_length] at hown
      go_wp2
      go_ret
      exact ⟨_, _, rfl, hown, hbel⟩
end Go.Proofs.Ytafanlbfbfbeoaa
