/- What the proofs over smartclip lean on, part 32 of 48. -/
import Derived.Test.YtafanlbfbfbeoaaM30
import Derived.Deep.CutBlock
import Derived.Deep.LoopGhost

/- smartWrap: the endpoints laid in memory, sorted; the loop. -/
namespace Go.Proofs.Ytafanlbfbfbeoaa
open Go.RowKit

set_option maxRecDepth 100000 in
set_option maxHeartbeats 4000000 in
theorem smartWrap_any (o lx ly hx hy : Int) (ho : o = 1 ∨ o = -1) (hlx : Sm lx) (hly : Sm ly) (hhx : Sm hx) (hhy : Sm hy) (hsx : Sm (hx + lx)) (hsy : Sm (hy + ly)) (rows : List (List (Int × Int))) (hO : WrapOk lx ly hx hy rows) (v : Value) (xs : List (Value × List (Int × Int))) (B : Nat) (w : World) (hB : B ≤ w.heap.size) (hln : Lines w B v xs) (hxs : xs.map Prod.snd = rows) (hEnd : EndOk o lx ly hx hy rows) :
    Calls Try.prog 42 #[.agg #[.float .f64 (F lx), .float .f64 (F ly), .float .f64 (F hx), .float .f64 (F hy)], v, .int .i8 o] w fun e w' => ∃ (rv : Value) (ps : List (Value × List (Value × List (Int × Int)))) (d : Array Nat) (oe : Nat → Nat) (K : Nat), e = .returned rv ∧
      Hid (SortO o lx ly hx hy rows rows.length d oe ∧ 2 * d.size ≤ (runW o lx ly hx hy rows d oe K initW).i ∧ K ≤ 100000 ∧ ps.map (fun x => x.2.map Prod.snd) = (runW o lx ly hx hy rows d oe K initW).res.map (fun r => [r])) ∧
      PolysAt w' B 86 74 69 hE rv ps ∧ Below B w w' := by
  obtain ⟨aoR, capR, gR, rfl, hgR, hrdR⟩ := hln.rows.read
  have hxl : xs.length = rows.length := by rw [← hxs, List.length_map]
  obtain ⟨n, hn⟩ : ∃ n, n = rows.length := ⟨_, rfl⟩
  rw [hxl, ← hn] at hgR hln ⊢
  have hn1 := hO.pos
  have hn2 := hO.few
  rw [← hn] at hn1 hn2
  obtain ⟨rfl, hgs, hgB⟩ := hgR hn1
  have HN : Hid (n = rows.length ∧ xs.length = n) := ⟨hn, hxl.trans hn.symm⟩
  have HX : Hid (xs.map Prod.snd = rows) := hxs
  have HO : Hid (WrapOk lx ly hx hy rows) := hO
  have HEnd : Hid (EndOk o lx ly hx hy rows) := hEnd
  clear hgR hxl hn hxs hO hEnd
  have hnz : (n : Int) ≤ 100 := by omega
  have hnz0 : (0 : Int) ≤ (n : Int) := by omega
  obtain ⟨i1, hj, hy0, hy1, hy2⟩ := info_parts info_ep
  have hbx := Blk.new w #[.float .f64 (F lx), .float .f64 (F ly), .float .f64 (F hx), .float .f64 (F hy)] 71
  have hB0 : Below w.heap.size w (w.alloc (.cells #[.float .f64 (F lx), .float .f64 (F ly), .float .f64 (F hx), .float .f64 (F hy)] 71)) := (Below.refl _ _).alloc (Nat.le_refl _) _
  obtain ⟨wb, hwb⟩ : ∃ wb, wb = w.alloc (.cells #[.float .f64 (F lx), .float .f64 (F ly), .float .f64 (F hx), .float .f64 (F hy)] 71) := ⟨_, rfl⟩
  go_enter Try.func42, Try.ntmps42
  go_upto_region 1 with fail
  rw [← hwb] at hbx hB0 ⊢
  clear hwb
  go_wp2_with (refine wpList_make_own wb rfl _ _ _ rfl (w.heap.size + 1) 106 i1 _ 1 Try.underlying105 hj hy0 hy1 .i64 .i64 _ (2 * n + 2) rfl rfl (by omega) (by rw [hy2]; omega) (by unfold maxLen; omega) hbx.lt ?_)
  intro w1 hown1 hgr1
  have hbx1 := hbx.grown hgr1 (by simp)
  have hB1 : Below w.heap.size w w1 := hB0.grown hgr1 hB0.size (by simp)
  clear hbx hB0 hgr1
  go_upto_block 0 with fail
  go_cut [7] (fun v7 wc => ∃ (eb : Nat → Nat) (ap : Option Addr) (cp : Nat), v7 = .slice ap (2 * n) cp ∧ Hid (EndsAt lx ly hx hy rows (w.heap.size + 1) wc (.slice ap (2 * n) cp) (2 * n) eb) ∧ Blk wc w.heap.size #[.float .f64 (F lx), .float .f64 (F ly), .float .f64 (F hx), .float .f64 (F hy)] 71 ∧ Below w.heap.size w wc)
  case first =>
    -- DONE
    go_wp2_with fail
    go_loopw [7, 22] (fun v7 vi wr => ∃ (k : Nat) (eb : Nat → Nat) (ap : Option Addr) (cp : Nat), k ≤ n ∧ vi = .int .i64 k ∧ v7 = .slice ap (2 * k) cp ∧ Hid (EndsAt lx ly hx hy rows (w.heap.size + 1) wr (.slice ap (2 * k) cp) (2 * k) eb) ∧ Blk wr w.heap.size #[.float .f64 (F lx), .float .f64 (F ly), .float .f64 (F hx), .float .f64 (F hy)] 71 ∧ Below w.heap.size w wr)
      (fun _ vi _ => n - (intOf vi).toNat)
    case atStart => exact ⟨0, fun _ => 0, _, _, by omega, rfl, rfl, ⟨hown1, fun e he => absurd he (by omega), fun e he => absurd he (by omega), fun e e' he => absurd he (by omega)⟩, hbx1, hB1⟩
    case round =>
      clear hown1 hbx1 hB1
      obtain ⟨k, eb, ap, cp, hk, rfl, rfl, HE, hbx, hbel⟩ := hrel
      by_cases hkn : k = n
      · subst hkn
        have hz : ¬ (k : Int) < (k : Int) := by omega
        go_wp2_with fail
        go_meet
        exact ⟨eb, ap, cp, rfl, HE, hbx, hbel⟩
      · have hz : (k : Int) < (n : Int) := by omega
        have hkx : k < xs.length := by rw [HN.out.2]; omega
        have hkr : k < rows.length := by rw [← HN.out.1]; omega
        obtain ⟨aqk, cqk, hjunk, cR, oR⟩ := hrdR k hkx
        have hrk : xs[k].2 = rows[k] := by
          have : (xs.map Prod.snd)[k]? = rows[k]? := by rw [HX.out]
          rw [List.getElem?_map, List.getElem?_eq_getElem hkx, List.getElem?_eq_getElem hkr] at this
          simpa using this
        rw [hrk] at cR oR
        obtain ⟨hr2, hr3⟩ := HO.out.len _ (List.getElem_mem hkr)
        obtain ⟨gk, hgk, hck⟩ := pts_read oR
        obtain ⟨rfl, hgsk, _⟩ := hgk (by omega)
        obtain ⟨ca0, ca1⟩ := hck 0 (by omega)
        obtain ⟨cb0, cb1⟩ := hck (rows[k].length - 1) (by omega)
        have hsa := HO.out.sm _ (List.getElem_mem hkr) _ (List.getElem_mem (l := rows[k]) (n := 0) (by omega))
        have hsb := HO.out.sm _ (List.getElem_mem hkr) _ (List.getElem_mem (l := rows[k]) (n := rows[k].length - 1) (by omega))
        obtain ⟨p, hp⟩ : ∃ p, p = rows[k][0] := ⟨_, rfl⟩
        obtain ⟨q, hq⟩ : ∃ q, q = rows[k][rows[k].length - 1] := ⟨_, rfl⟩
        rw [← hp] at ca0 ca1 hsa
        rw [← hq] at cb0 cb1 hsb
        have hrr : rows[k]! = rows[k] := getElem!_pos rows k hkr
        have HEp : Hid (endE lx ly hx hy rows (2 * k) = ⟨p.1, p.2, true, (sideI lx ly hx hy p.1 p.2).toNat, k⟩ ∧ endE lx ly hx hy rows (2 * k + 1) = ⟨q.1, q.2, false, (sideI lx ly hx hy q.1 q.2).toNat, k⟩) := by
          constructor
          · unfold endE
            rw [show 2 * k % 2 = 0 by omega, show 2 * k / 2 = k by omega, hrr, head_at rows[k] (by omega), ← hp]
            simp
          · unfold endE
            rw [show (2 * k + 1) % 2 = 1 by omega, show (2 * k + 1) / 2 = k by omega, hrr, last_at rows[k] (rows[k].length - 1) (by omega) (by omega), ← hq]
            simp
        obtain ⟨s1, hs1⟩ : ∃ s1 : Nat, sideI lx ly hx hy p.1 p.2 = (s1 : Int) := by unfold sideI; (repeat' split) <;> first | exact ⟨4, rfl⟩ | exact ⟨2, rfl⟩ | exact ⟨3, rfl⟩ | exact ⟨1, rfl⟩ | exact ⟨255, rfl⟩
        obtain ⟨s2, hs2⟩ : ∃ s2 : Nat, sideI lx ly hx hy q.1 q.2 = (s2 : Int) := by unfold sideI; (repeat' split) <;> first | exact ⟨4, rfl⟩ | exact ⟨2, rfl⟩ | exact ⟨3, rfl⟩ | exact ⟨1, rfl⟩ | exact ⟨255, rfl⟩
        have hps1 := pointSide_any lx ly hx hy p.1 p.2 hlx hly hhx hhy hsa.1 hsa.2
        have hps2 := pointSide_any lx ly hx hy q.1 q.2 hlx hly hhx hhy hsb.1 hsb.2
        rw [hs1] at hps1
        rw [hs2] at hps2
        have HE1 : Hid (endE lx ly hx hy rows (2 * k) = ⟨p.1, p.2, true, s1, k⟩ ∧ endE lx ly hx hy rows (2 * k + 1) = ⟨q.1, q.2, false, s2, k⟩) := by
          have := HEp.out
          rw [hs1, hs2, Int.toNat_natCast, Int.toNat_natCast] at this
          exact this
        obtain ⟨L, hL⟩ : ∃ L, L = rows[k].length := ⟨_, rfl⟩
        rw [← hL] at cb0 cb1 cR hr2 hr3
        have d0 : wr.cell? ⟨gR, k, none⟩ = some (.slice (some ⟨gk, 0, none⟩) L cqk) := (hbel.cell (by exact hgs)).trans cR
        have d1 : wr.cell? ⟨gk, 0, none⟩ = some (.float .f64 (F p.1)) := (hbel.cell (by exact hgsk)).trans ca0
        have d2 : wr.cell? ⟨gk, 1, none⟩ = some (.float .f64 (F p.2)) := (hbel.cell (by exact hgsk)).trans ca1
        have e0 : wr.cell? ⟨w.heap.size, 0, none⟩ = some (.float .f64 (F lx)) := hbx.cell 0
        have e1 : wr.cell? ⟨w.heap.size, 1, none⟩ = some (.float .f64 (F ly)) := hbx.cell 1
        have e2 : wr.cell? ⟨w.heap.size, 2, none⟩ = some (.float .f64 (F hx)) := hbx.cell 2
        have e3 : wr.cell? ⟨w.heap.size, 3, none⟩ = some (.float .f64 (F hy)) := hbx.cell 3
        have hLz : (0 : Int) < (L : Int) := by omega
        have hLn : 0 < L := by omega
        have hLn2 : 1 ≤ L := by omega
        have HK : Hid (∀ W, Below (w.heap.size + 1) wr W → (W.cell? ⟨w.heap.size, 0, none⟩ = some (.float .f64 (F lx)) ∧ W.cell? ⟨w.heap.size, 1, none⟩ = some (.float .f64 (F ly)) ∧ W.cell? ⟨w.heap.size, 2, none⟩ = some (.float .f64 (F hx)) ∧ W.cell? ⟨w.heap.size, 3, none⟩ = some (.float .f64 (F hy)) ∧ W.cell? ⟨gk, 0, none⟩ = some (.float .f64 (F p.1)) ∧ W.cell? ⟨gk, 1, none⟩ = some (.float .f64 (F p.2)))) :=
          fun W hb => ⟨(hb.cell (Nat.lt_succ_self _)).trans e0, (hb.cell (Nat.lt_succ_self _)).trans e1, (hb.cell (Nat.lt_succ_self _)).trans e2, (hb.cell (Nat.lt_succ_self _)).trans e3, (hb.cell (Nat.lt_succ_of_lt hgsk)).trans d1, (hb.cell (Nat.lt_succ_of_lt hgsk)).trans d2⟩
        have hbl : w.heap.size + 1 ≤ wr.heap.size := hbx.lt
        have HL : Hid (L = rows[k].length) := hL
        have hkz : (k : Int) < 100 := by omega
        clear hjunk cR oR hrk hgk hck ca0 ca1 hp hq hrr HEp hs1 hs2 hL
        go_wp2_with fail
        go_cut [7] (fun v7 wc => ∃ (eb1 : Nat → Nat) (ap1 : Option Addr) (cp1 : Nat), v7 = .slice ap1 (2 * k + 1) cp1 ∧ Hid (EndsAt lx ly hx hy rows (w.heap.size + 1) wc (.slice ap1 (2 * k + 1) cp1) (2 * k + 1) eb1) ∧ Blk wc w.heap.size #[.float .f64 (F lx), .float .f64 (F ly), .float .f64 (F hx), .float .f64 (F hy)] 71 ∧ Below w.heap.size w wc)
        case first =>
          go_region_held3 (fun w' => (w'.cell? ⟨w.heap.size, 0, none⟩ = some (.float .f64 (F lx)) ∧ w'.cell? ⟨w.heap.size, 1, none⟩ = some (.float .f64 (F ly)) ∧ w'.cell? ⟨w.heap.size, 2, none⟩ = some (.float .f64 (F hx)) ∧ w'.cell? ⟨w.heap.size, 3, none⟩ = some (.float .f64 (F hy)) ∧ w'.cell? ⟨gk, 0, none⟩ = some (.float .f64 (F p.1)) ∧ w'.cell? ⟨gk, 1, none⟩ = some (.float .f64 (F p.2))))
            ((refine HK.out _ ?_; repeat (first | with_reducible assumption | with_reducible exact Below.refl _ _ | with_reducible refine Below.drew ?_ | with_reducible refine below_drewN ?_ _ | with_reducible refine below_alloc ?_ _ hbl)))
            (first
              | (go_at_call 50; with_reducible refine (hps1 _).mono ?_; rintro e wA ⟨rfl, hbA⟩; have hBA : Below wr.heap.size wr wA := below_step (by repeat (first | with_reducible assumption | with_reducible exact Below.refl _ _ | with_reducible refine Below.drew ?_ | with_reducible refine below_drewN ?_ _ | with_reducible refine below_alloc ?_ _ (Nat.le_refl _))) hbA; have hB3 : Below (w.heap.size + 1) wr wA := hBA.mono hbl; have hrA := own_below HE.out.row hBA (Nat.le_refl _))
              | (refine step_append_lies _ rfl (.tmp 27) (.tmp 42) 105 rfl (w.heap.size + 1) 106 i1 _ 1 8 Try.underlying105 hj hy0 hy1 hy2 rfl (by decide) (.slice ap (2 * k) cp) (2 * k) ((List.range (2 * k)).map fun e => Value.pointer (some ⟨eb e, 0, none⟩)) (by simp [Act.eval]) (by repeat (first | with_reducible exact hrA | with_reducible refine World.ownsRow.drew ?_ | with_reducible refine World.ownsRow.alloc ?_ _)) ⟨wA.heap.size + 1, 0, none⟩ 1 1 [.pointer (some ⟨wA.heap.size, 0, none⟩)] (by simp [Act.eval]) rfl news_two (by simp [Value.oneCell']) (by decide) (by unfold maxLen; omega) (by omega) (by have := hBA.size; simp; omega) _ rfl ?_
                 intro g2 cap2 w2 hown2 hgr2 hat2 hlt2
                 have hB4 : Below (w.heap.size + 1) wr w2 := Below.grown (below_alloc (below_alloc hB3 _ hbl) _ hbl) hgr2 (Nat.le_trans hbl (Nat.le_trans hBA.size (by simp; omega))) (fun k hk => (HE.out.row.lt k hk).1)))
          all_goals go_wp2_with fail
          all_goals go_meet
          all_goals
            have h2k : mateE (2 * k) = 2 * k + 1 := by unfold mateE; rw [if_pos (by omega)]
            have hw2 : IntKind.i64.wrap (2 * (k : Int)) = 2 * (k : Int) := IntWalk.i64_in _ (by omega)
            have hw3 : IntKind.i64.wrap (2 * (k : Int) + 1) = 2 * (k : Int) + 1 := IntWalk.i64_in _ (by omega)
            rw [hw2, hw3] at hgr2
            have hgb := fun cs => HE.out.push (g := wA.heap.size) (g2 := g2) (cap2 := cap2) (w2 := w2) (w1 := (wA.alloc (.cells #[.float .f64 (F p.1), .float .f64 (F p.2), .bool true, .bool false, .int .u8 s1, .int .i64 k, .int .i64 (2 * (k : Int) + 1)] 108)).alloc (.cells cs 106)) (((hBA.alloc hBA.size _).alloc (by have := hBA.size; simp; omega) _)) hBA.size hbl (by rw [HE1.out.1, h2k]; exact (Blk.new wA _ _).alloc _)
            refine ⟨_, some ⟨g2, 0, none⟩, cap2, rfl, hgb _ hgr2 hown2, ?_, ?_⟩
            · exact hbx.below hB4 (Nat.lt_succ_self _)
            · exact hbel.trans (hB4.mono (Nat.le_succ _))
        case rest =>
          clear HE hbx hbel HK d0 d1 d2 e0 e1 e2 e3 hbl hps1
          obtain ⟨eb1, ap1, cp1, rfl, HE, hbx, hbel⟩ := hcut
          have d1 : wc.cell? ⟨gk, (L - 1) * 2, none⟩ = some (.float .f64 (F q.1)) := (hbel.cell (by exact hgsk)).trans cb0
          have d2 : wc.cell? ⟨gk, (L - 1) * 2 + 1, none⟩ = some (.float .f64 (F q.2)) := (hbel.cell (by exact hgsk)).trans cb1
          have e0 : wc.cell? ⟨w.heap.size, 0, none⟩ = some (.float .f64 (F lx)) := hbx.cell 0
          have e1 : wc.cell? ⟨w.heap.size, 1, none⟩ = some (.float .f64 (F ly)) := hbx.cell 1
          have e2 : wc.cell? ⟨w.heap.size, 2, none⟩ = some (.float .f64 (F hx)) := hbx.cell 2
          have e3 : wc.cell? ⟨w.heap.size, 3, none⟩ = some (.float .f64 (F hy)) := hbx.cell 3
          have HK : Hid (∀ W, Below (w.heap.size + 1) wc W → (W.cell? ⟨w.heap.size, 0, none⟩ = some (.float .f64 (F lx)) ∧ W.cell? ⟨w.heap.size, 1, none⟩ = some (.float .f64 (F ly)) ∧ W.cell? ⟨w.heap.size, 2, none⟩ = some (.float .f64 (F hx)) ∧ W.cell? ⟨w.heap.size, 3, none⟩ = some (.float .f64 (F hy)) ∧ W.cell? ⟨gk, (L - 1) * 2, none⟩ = some (.float .f64 (F q.1)) ∧ W.cell? ⟨gk, (L - 1) * 2 + 1, none⟩ = some (.float .f64 (F q.2)))) :=
            fun W hb => ⟨(hb.cell (Nat.lt_succ_self _)).trans e0, (hb.cell (Nat.lt_succ_self _)).trans e1, (hb.cell (Nat.lt_succ_self _)).trans e2, (hb.cell (Nat.lt_succ_self _)).trans e3, (hb.cell (Nat.lt_succ_of_lt hgsk)).trans d1, (hb.cell (Nat.lt_succ_of_lt hgsk)).trans d2⟩
          have hbl : w.heap.size + 1 ≤ wc.heap.size := hbx.lt
          have hLm : (L : Int) ≤ 4000 := by omega
          have hLa : (0 : Int) ≤ (L : Int) - 1 := by omega
          have hLb : (L : Int) - 1 < (L : Int) := by omega
          have hLc : ((L : Int) - 1).toNat = L - 1 := by omega
          have hLe : L - 1 < L := by omega
          have hLf : (1 : Int) ≤ (L : Int) := by omega
          have hLg : ((L - 1 : Nat) : Int) < (L : Int) := by omega
          have hLd : IntKind.i64.wrap ((L : Int) - 1) = (L : Int) - 1 := IntWalk.i64_in _ (by omega)
          clear cb0 cb1
          go_wp2_with fail
          go_region_held3 (fun w' => (w'.cell? ⟨w.heap.size, 0, none⟩ = some (.float .f64 (F lx)) ∧ w'.cell? ⟨w.heap.size, 1, none⟩ = some (.float .f64 (F ly)) ∧ w'.cell? ⟨w.heap.size, 2, none⟩ = some (.float .f64 (F hx)) ∧ w'.cell? ⟨w.heap.size, 3, none⟩ = some (.float .f64 (F hy)) ∧ w'.cell? ⟨gk, (L - 1) * 2, none⟩ = some (.float .f64 (F q.1)) ∧ w'.cell? ⟨gk, (L - 1) * 2 + 1, none⟩ = some (.float .f64 (F q.2))))
            ((refine HK.out _ ?_; repeat (first | with_reducible assumption | with_reducible exact Below.refl _ _ | with_reducible refine Below.drew ?_ | with_reducible refine below_drewN ?_ _ | with_reducible refine below_alloc ?_ _ hbl)))
            (first
              | (go_at_call 50; with_reducible refine (hps2 _).mono ?_; rintro e wA ⟨rfl, hbA⟩; have hBA : Below wc.heap.size wc wA := below_step (by repeat (first | with_reducible assumption | with_reducible exact Below.refl _ _ | with_reducible refine Below.drew ?_ | with_reducible refine below_drewN ?_ _ | with_reducible refine below_alloc ?_ _ (Nat.le_refl _))) hbA; have hB3 : Below (w.heap.size + 1) wc wA := hBA.mono hbl; have hrA := own_below HE.out.row hBA (Nat.le_refl _))
              | (refine step_append_lies _ rfl (.tmp 44) (.tmp 64) 105 rfl (w.heap.size + 1) 106 i1 _ 1 8 Try.underlying105 hj hy0 hy1 hy2 rfl (by decide) (.slice ap1 (2 * k + 1) cp1) (2 * k + 1) ((List.range (2 * k + 1)).map fun e => Value.pointer (some ⟨eb1 e, 0, none⟩)) (by simp [Act.eval]) (by repeat (first | with_reducible exact hrA | with_reducible refine World.ownsRow.drew ?_ | with_reducible refine World.ownsRow.alloc ?_ _)) ⟨wA.heap.size + 1, 0, none⟩ 1 1 [.pointer (some ⟨wA.heap.size, 0, none⟩)] (by simp [Act.eval]) rfl news_two (by simp [Value.oneCell']) (by decide) (by unfold maxLen; omega) (by omega) (by have := hBA.size; simp; omega) _ rfl ?_
                 intro g2 cap2 w2 hown2 hgr2 hat2 hlt2
                 have hB4 : Below (w.heap.size + 1) wc w2 := Below.grown (below_alloc (below_alloc hB3 _ hbl) _ hbl) hgr2 (Nat.le_trans hbl (Nat.le_trans hBA.size (by simp; omega))) (fun k hk => (HE.out.row.lt k hk).1)))
          all_goals go_wp2_with fail
          all_goals
            have h2k : mateE (2 * k + 1) = 2 * k := by unfold mateE; rw [if_neg (by omega)]; omega
            have hw2 : IntKind.i64.wrap (2 * (k : Int)) = 2 * (k : Int) := IntWalk.i64_in _ (by omega)
            rw [hw2] at hgr2
            have hgb := fun cs => HE.out.push (g := wA.heap.size) (g2 := g2) (cap2 := cap2) (w2 := w2) (w1 := (wA.alloc (.cells #[.float .f64 (F q.1), .float .f64 (F q.2), .bool false, .bool false, .int .u8 s2, .int .i64 k, .int .i64 (2 * (k : Int))] 108)).alloc (.cells cs 106)) (((hBA.alloc hBA.size _).alloc (by have := hBA.size; simp; omega) _)) hBA.size hbl (by rw [HE1.out.2, h2k]; exact (Blk.new wA _ _).alloc _)
            have HE2 : Hid (EndsAt lx ly hx hy rows (w.heap.size + 1) w2 (.slice (some ⟨g2, 0, none⟩) (2 * (k + 1)) cap2) (2 * (k + 1)) (fun e => if e = 2 * k + 1 then wA.heap.size else eb1 e)) := hgb _ hgr2 hown2
            have hbx2 := hbx.below hB4 (Nat.lt_succ_self _)
            have hbel2 := hbel.trans (hB4.mono (Nat.le_succ _))
            clear hgb HE hrA hown2 hgr2
            go_roundw
            case rel => exact ⟨k + 1, _, _, _, by omega, by go_num, rfl, HE2, hbx2, hbel2⟩
            case measure => simp [intOf]; omega
    -- ENOD
  case rest =>
    clear hown1 hbx1 hB1
    obtain ⟨eb, ap, cp, rfl, HE, hbx, hbel⟩ := hcut
    obtain ⟨pb, rfl⟩ : ∃ pb, ap = some ⟨pb, 0, none⟩ := by
      rcases HE.out.row.2 with ⟨_, h0⟩ | ⟨g, _, _, hv, _⟩
      · omega
      · injection hv with e1; exact ⟨g, e1⟩
    have HE' : EndsAt lx ly hx hy rows (w.heap.size + 1) wc (.slice (some ⟨pb, 0, none⟩) (2 * rows.length) cp) (2 * rows.length) eb := by rw [← HN.out.1]; exact HE.out
    have G := HE'.good HO.out (Nat.le_refl _)
    have G2 := HE'.good HO.out (sb := wc.heap.size) (Nat.le_refl _)
    obtain ⟨tl, hord⟩ := HE'.order
    have hpbB := (HE'.row.lt pb rfl)
    have hebB := HE'.low
    have hebL := fun e he => (HE'.blk e he).lt
    rw [← HN.out.1] at G hord hebB hebL
    have HG : Hid (EpsG (2 * n) (endE lx ly hx hy rows) eb wc.heap.size pb (QM (2 * n))) := G
    have HOr : Hid (∀ mv, EpsW (2 * n) (endE lx ly hx hy rows) eb wc.heap.size pb 106 mv cp tl (QM (2 * n)) (Array.range (2 * n)) (wc.alloc (.cells #[mv, .slice (some ⟨pb, 0, none⟩) (2 * n) cp] 112))) := hord
    have HeB : Hid (∀ e, e < 2 * n → w.heap.size + 1 ≤ eb e) := hebB
    have HeL : Hid (∀ e, e < 2 * n → eb e < wc.heap.size) := hebL
    clear G G2 HE' hord hebB hebL HE
    go_upto_if 68 with fail
    go_cut [] (fun w2 => ∃ (d : Array Nat) (oe : Nat → Nat), Hid (GoodS (ltO o (endE lx ly hx hy rows)) 0 (2 * n) (Array.range (2 * n)) d ∧ QM (2 * n) d oe ∧ d.size = 2 * n ∧ ∀ k, k < 2 * n → d[k]! < 2 * n) ∧ Hid (∀ e, e < 2 * n → Blk w2 (eb e) (epC (endE lx ly hx hy rows e) false (oe e)) 108) ∧
      Hid (∀ k, k < 2 * n → w2.cell? ⟨pb, k, none⟩ = some (.pointer (some ⟨eb d[k]!, 0, none⟩))) ∧ Hid (∃ c : Array Value, Blk w2 pb c 106) ∧ Blk w2 w.heap.size #[.float .f64 (F lx), .float .f64 (F ly), .float .f64 (F hx), .float .f64 (F hy)] 71 ∧ Below (w.heap.size + 1) wc w2)
    case first =>
      -- DONE
      have END : ∀ (lt : Nat → Nat → Bool) (d : Array Nat) (w1 w2 : World) (own : Nat → Prop) (mv : Value), lt = ltO o (endE lx ly hx hy rows) → GoodS lt 0 (2 * n) (Array.range (2 * n)) d → EpsW (2 * n) (endE lx ly hx hy rows) eb wc.heap.size pb 106 mv cp tl (QM (2 * n)) d w2 → KeepsB own w1 w2 → Below wc.heap.size wc w1 → (∀ b, own b → w.heap.size + 1 ≤ b) →
          ∃ (d : Array Nat) (oe : Nat → Nat), Hid (GoodS (ltO o (endE lx ly hx hy rows)) 0 (2 * n) (Array.range (2 * n)) d ∧ QM (2 * n) d oe ∧ d.size = 2 * n ∧ ∀ k, k < 2 * n → d[k]! < 2 * n) ∧ Hid (∀ e, e < 2 * n → Blk w2 (eb e) (epC (endE lx ly hx hy rows e) false (oe e)) 108) ∧
      Hid (∀ k, k < 2 * n → w2.cell? ⟨pb, k, none⟩ = some (.pointer (some ⟨eb d[k]!, 0, none⟩))) ∧ Hid (∃ c : Array Value, Blk w2 pb c 106) ∧ Blk w2 w.heap.size #[.float .f64 (F lx), .float .f64 (F ly), .float .f64 (F hx), .float .f64 (F hy)] 71 ∧ Below (w.heap.size + 1) wc w2 := by
        intro lt d w1 w2 own mv hlt hgd hW hk hb ho
        subst hlt
        have hsz := hb.size
        have hB2 : Below (w.heap.size + 1) w1 w2 := hk.below (Nat.le_trans hbx.lt hsz) ho
        have hB3 : Below (w.heap.size + 1) wc w2 := (hb.mono hbx.lt).trans hB2
        obtain ⟨oe, hQ, hE⟩ := hW.eps
        exact ⟨d, oe, ⟨hgd, hQ, hW.size, hW.ids⟩, fun e he => (hE e he).2, fun k hk => row_at hW.row k (by rw [hW.size]; exact hk), ⟨_, hW.row⟩, hbx.below hB3 (Nat.lt_succ_self _), hB3⟩
      rcases ho with rfl | rfl
      · go_wp2_with fail
        (with_reducible refine (sort_any (epsSort HG.out) (ltP_swo _) (by omega) (Array.range (2 * n)) _ (HOr.out _)).mono ?_)
        rintro e w3 ⟨rfl, d', hgd, hW, hk⟩
        have hfin := END _ d' _ w3 _ _ rfl hgd hW hk ((Below.refl _ _).alloc (Nat.le_refl _) _) (fun b hb => by
          rcases hb with rfl | rfl | ⟨e, he, rfl⟩
          · exact hbx.lt
          · exact hpbB.1
          · exact HeB.out e he)
        clear END hW hk hgd
        go_wp2_with fail
        go_meet
        exact hfin
      · go_wp2_with fail
        (with_reducible refine (reverse_any _ _ _).mono ?_)
        rintro e w4 ⟨rfl, rfl⟩
        have hW0 := (HOr.out (.slice (some ⟨gR, 0, none⟩) n capR)).stay (W' := (wc.alloc (.cells #[.slice (some ⟨gR, 0, none⟩) n capR, .slice (some ⟨pb, 0, none⟩) (2 * n) cp] 112)).alloc (.cells #[.iface 110 (.pointer (some ⟨wc.heap.size, 0, none⟩))] 129)) (fun b hb => Below.heap_alloc _ _ b ((HOr.out _).low b hb))
        have hrb := Blk.new (wc.alloc (.cells #[.slice (some ⟨gR, 0, none⟩) n capR, .slice (some ⟨pb, 0, none⟩) (2 * n) cp] 112)) #[.iface 110 (.pointer (some ⟨wc.heap.size, 0, none⟩))] 129
        rw [World.size_alloc] at hrb
        go_wp2_with fail
        (with_reducible refine (sort_any (epsRev HG.out (wc.heap.size + 1) (by omega) (by omega) (fun e he h => by have := HeL.out e he; omega)) (gtP_swo _) (by omega) (Array.range (2 * n)) _ ⟨hW0, hrb⟩).mono ?_)
        rintro e w3 ⟨rfl, d', hgd, ⟨hW, _⟩, hk⟩
        have hfin := END _ d' _ w3 _ _ rfl hgd hW hk (((Below.refl _ _).alloc (Nat.le_refl _) _).alloc (by simp) _) (fun b hb => by
          rcases hb with (rfl | rfl | ⟨e, he, rfl⟩) | rfl
          · exact hbx.lt
          · exact hpbB.1
          · exact HeB.out e he
          · have := hbx.lt; omega)
        clear END hW hk hgd hW0 hrb
        go_wp2_with fail
        go_meet
        exact hfin
      -- ENOD
    case rest =>
      obtain ⟨d, oe, HD, HB, HP, HT, hbx2, hB2⟩ := hcut
      have hbelW : Below w.heap.size w wc := hbel.trans (hB2.mono (Nat.le_succ _))
      have HA0 : Hid (WrapA w wc B lx ly hx hy rows (2 * n) xs gR w.heap.size eb pb oe d (fun _ => false) (.slice none 0 0) [] (.slice none 0 0) []) :=
        wrapA_start hB hln HN.out.2 hbelW hbx2 HB.out HP.out HT.out HG.out.ebi (fun e he => by have := HeB.out e he; omega)
      have hSO : SortO o lx ly hx hy rows rows.length d oe := by rw [← HN.out.1]; exact HD.out
      obtain ⟨K, hK1, hK2, hK3⟩ := HEnd.out d oe hSO
      have HF : Hid (2 * d.size ≤ (runW o lx ly hx hy rows d oe K initW).i ∧ ∀ k, SafeW rows d (runW o lx ly hx hy rows d oe k initW)) := ⟨hK2, hK3⟩
      have HCur : Hid (∀ k, CurOk rows n k (runW o lx ly hx hy rows d oe k initW)) := fun k => curOk_run HO.out HN.out.1 HD.out.2.2.1 HD.out.2.2.2 (fun e he => (HD.out.2.1.2 e he).1) k
      have HDs : Hid (d.size = 2 * n ∧ (∀ k, k < 2 * n → d[k]! < 2 * n) ∧ ∀ e, e < 2 * n → oe e < 2 * n) := ⟨HD.out.2.2.1, HD.out.2.2.2, fun e he => (HD.out.2.1.2 e he).1⟩
      have HRow : Hid (∀ r (h : r < xs.length) (h' : r < rows.length), xs[r].2 = rows[r]) := fun r h h' => by
        have : (xs.map Prod.snd)[r]? = rows[r]? := by rw [HX.out]
        rw [List.getElem?_map, List.getElem?_eq_getElem h, List.getElem?_eq_getElem h'] at this
        simpa using this
      have HSO : Hid (SortO o lx ly hx hy rows n d oe) := HD.out
      clear hK2 hK3 hSO HB HP HT hbx2 hB2 hbelW HG HOr HeB HeL HD hbel hbx hrdR hln HEnd tl
      obtain ⟨N, hN⟩ : ∃ N, N = 2 * n := ⟨_, rfl⟩
      rw [← hN] at HA0 HDs ⊢
      have hN1 : 0 < N := by omega
      have hN2 : N ≤ 200 := by omega
      have hN3 : (N : Int) ≤ 200 := by omega
      have hN4 : (0 : Int) < (N : Int) := by omega
      have HN2 : Hid (N = 2 * n) := hN
      clear hN
      go_wp2_with fail
      go_loopg [10, 11, 12] K (fun kx v10 v11 v12 wr => ∃ (k : Nat) (s : WSt) (ps : List (Value × List (Value × List (Int × Int)))), k + kx = K ∧ Hid (s = runW o lx ly hx hy rows d oe k initW) ∧ Hid (ps.map (fun x => x.2.map Prod.snd) = s.res.map (fun r => [r])) ∧ v12 = .int .i64 (s.i : Nat) ∧
        Hid (WrapA w wr B lx ly hx hy rows N xs gR w.heap.size eb pb oe d s.used v11 s.cur v10 ps))
      case atStart => exact ⟨0, initW, [], by omega, rfl, rfl, rfl, HA0⟩
      case round =>
        clear HA0
        obtain ⟨k, s, ps, hk, HS, HR, rfl, HA⟩ := hrel
        obtain ⟨i, hi0⟩ : ∃ i, i = s.i := ⟨_, rfl⟩
        rw [← hi0]
        have HI : Hid (i = s.i) := hi0
        clear hi0
        by_cases hi : i < 2 * N
        · have hiz : (i : Int) < 2 * (N : Int) := by omega
          have hiz0 : (0 : Int) ≤ (i : Int) := by omega
          have HL : Hid (s.i < 2 * d.size ∧ k < K) := by
            have h1 : s.i < 2 * d.size := by rw [← HI.out, HDs.out.1]; have := HN2.out; omega
            refine ⟨h1, ?_⟩
            rcases Nat.lt_or_ge k K with h | h
            · exact h
            · exfalso
              have : k = K := by omega
              subst this
              have h2 := HF.out.1
              rw [← HS.out] at h2
              omega
          obtain ⟨q, hq0⟩ : ∃ q, q = i % N := ⟨_, rfl⟩
          have hqN : q < N := by rw [hq0]; exact Nat.mod_lt _ hN1
          have hqt : (i : Int).tmod (N : Int) = (q : Int) := by rw [hq0]; rfl
          have hqz : (q : Int) < (N : Int) := by omega
          have hqz0 : (0 : Int) ≤ (q : Int) := by omega
          obtain ⟨e, he0⟩ : ∃ e, e = d[q]! := ⟨_, rfl⟩
          have heN : e < N := by rw [he0]; exact HDs.out.2.1 q (by have := HN2.out; omega)
          have HE0 : Hid (d[s.i % d.size]! = e) := by
            show _ = _
            rw [he0, hq0, HI.out, HDs.out.1, HN2.out]
          have hrx : e / 2 < xs.length := by rw [HN.out.2]; have := HN2.out; omega
          have hrr : e / 2 < rows.length := by rw [← HN.out.1]; have := HN2.out; omega
          obtain ⟨p, hp0⟩ : ∃ p, p = if e % 2 = 0 then rows[e / 2]!.head! else rows[e / 2]!.getLast! := ⟨_, rfl⟩
          obtain ⟨sd, hsd⟩ : ∃ sd, sd = (sideI lx ly hx hy p.1 p.2).toNat := ⟨_, rfl⟩
          obtain ⟨st, hst⟩ : ∃ st : Bool, st = decide (e % 2 = 0) := ⟨_, rfl⟩
          have HEE : Hid (endE lx ly hx hy rows e = ⟨p.1, p.2, st, sd, e / 2⟩) := by
            show _ = _
            unfold endE
            simp only [← hp0, hsd, hst]
          obtain ⟨u, hu0⟩ : ∃ u : Bool, u = s.used e := ⟨_, rfl⟩
          obtain ⟨oq, hoq⟩ : ∃ oq, oq = oe e := ⟨_, rfl⟩
          have hoqN : oq < N := by rw [hoq]; have := HDs.out.2.2 e (by have := HN2.out; omega); have := HN2.out; omega
          obtain ⟨ix, hix⟩ : ∃ ix, ix = e / 2 := ⟨_, rfl⟩
          obtain ⟨g, hg0, cq, c0, c1, c2, c3, c5, c6⟩ := HA.out.ep hqN (by rw [← he0]; exact heN) (by rw [← he0]; exact HEE.out)
          rw [← he0] at hg0 c3 c6
          rw [← hu0] at c3
          rw [← hoq] at c6
          rw [← hix] at c5
          have HG : Hid (g = eb e) := hg0
          have HQ : Hid (e = d[q]! ∧ q = i % N ∧ p = (if e % 2 = 0 then rows[e / 2]!.head! else rows[e / 2]!.getLast!) ∧ sd = (sideI lx ly hx hy p.1 p.2).toNat ∧ st = decide (e % 2 = 0) ∧ u = s.used e ∧ oq = oe e ∧ ix = e / 2) := ⟨he0, hq0, hp0, hsd, hst, hu0, hoq, hix⟩
          clear hg0 he0 hq0 hp0 hsd hst hu0 hoq hix
          have hstep : ∀ s', stepW o lx ly hx hy rows d oe s = s' → s' = runW o lx ly hx hy rows d oe (k + 1) initW := fun s' h => by rw [runW_step, ← HS.out, h]
          have HST : Hid (∀ s', stepW o lx ly hx hy rows d oe s = s' → s' = runW o lx ly hx hy rows d oe (k + 1) initW) := hstep
          clear hstep
          obtain ⟨aoc, capc, hcv⟩ := own_form HA.out.m.cur
          subst hcv
          obtain ⟨cl, hcl⟩ : ∃ cl, cl = s.cur.length := ⟨_, rfl⟩
          rw [← hcl] at HA ⊢
          have HCL : Hid (cl = s.cur.length) := hcl
          have hclb : cl ≤ 500 * k := by rw [hcl, HS.out]; exact (HCur.out k).len
          have hkb : k ≤ 100000 := by omega
          have hclz : (cl : Int) ≤ 50000000 := by omega
          clear hcl
          cases u with
          | true =>
            -- DONE
            go_wp2_with fail
            go_roundg (gk - 1)
            case measure => have := HL.out.2; omega
            case rel => exact ⟨k + 1, _, ps, by have := HL.out.2; omega, HST.out _ (stepW_used HL.out.1 HE0.out HQ.out.2.2.2.2.2.1.symm), HR, by rw [HI.out]; go_num, HA⟩
            -- ENOD
          | false =>
            have hixn : (ix : Int) < (n : Int) := by have := HQ.out.2.2.2.2.2.2.2; have := HN.out.2; omega
            have hixn0 : (0 : Int) ≤ (ix : Int) := by omega
            have hfz : wr.frozen? ⟨g, 3, none⟩ = false := by rw [HG.out]; exact (HA.out.e.eps e heN).frozen 3
            cases st with
            | false =>
              have HO1 : Hid (e % 2 = 1) := by
                have := of_decide_eq_false HQ.out.2.2.2.2.1.symm
                show _ = _
                omega
              by_cases hc0 : cl = 0
              · -- DONE
                subst hc0
                have hcn : s.cur = [] := List.eq_nil_of_length_eq_zero HCL.out.symm
                obtain ⟨xv, hxv⟩ : ∃ xv, xv = xs[e / 2].1 := ⟨_, rfl⟩
                have cr : wr.cell? ⟨gR, ix, none⟩ = some xv := by rw [hxv, HQ.out.2.2.2.2.2.2.2]; exact HA.out.gr (e / 2) hrx
                have HX1 : Hid (xv = xs[e / 2].1 ∧ s.cur = []) := ⟨hxv, hcn⟩
                clear hxv hcn
                go_wp2_with fail
                go_roundg (gk - 1)
                case measure => have := HL.out.2; omega
                case rel =>
                  refine ⟨k + 1, _, ps, by have := HL.out.2; omega, HST.out _ (stepW_take HL.out.1 HE0.out HQ.out.2.2.2.2.2.1.symm HO1.out HX1.out.2), HR, by rw [HI.out]; go_num, ?_⟩
                  have hd : dbl rows[e / 2]! = dbl xs[e / 2].2 := by rw [HRow.out _ hrx hrr, getElem!_pos rows _ hrr]
                  have := HA.out.take heN HO1.out hrx HQ.out.2.2.2.2.2.1.symm (fun p hp => by rw [HRow.out _ hrx hrr] at hp; exact HO.out.sm _ (List.getElem_mem hrr) p hp)
                  rw [HX1.out.1, HG.out]
                  show WrapA _ _ _ _ _ _ _ _ _ _ _ _ _ _ _ _ _ _ (dbl rows[e / 2]!) _ _
                  rw [hd]
                  exact this
                -- ENOD
              · -- DONE
                have hcn : s.cur ≠ [] := fun h => hc0 (by rw [HCL.out, h]; rfl)
                have hcz : ((cl : Int) == 0) = false := by simpa using hc0
                go_wp2_with fail
                go_roundg (gk - 1)
                case measure => have := HL.out.2; omega
                case rel => exact ⟨k + 1, _, ps, by have := HL.out.2; omega, HST.out _ (stepW_odd HL.out.1 HE0.out HQ.out.2.2.2.2.2.1.symm HO1.out hcn), HR, by rw [HI.out]; go_num, HA⟩
                -- ENOD
            | true =>
              have hev : e % 2 = 0 := of_decide_eq_true HQ.out.2.2.2.2.1.symm
              have HO1 : Hid (e % 2 = 0) := hev
              clear hev
              by_cases hc0 : cl = 0
              · -- DONE
                subst hc0
                have hcn : s.cur = [] := List.eq_nil_of_length_eq_zero HCL.out.symm
                have HX1 : Hid (s.cur = []) := hcn
                clear hcn
                go_wp2_with fail
                go_roundg (gk - 1)
                case measure => have := HL.out.2; omega
                case rel => exact ⟨k + 1, _, ps, by have := HL.out.2; omega, HST.out _ (stepW_none HL.out.1 HE0.out HQ.out.2.2.2.2.2.1.symm HO1.out HX1.out), HR, by rw [HI.out]; go_num, HA⟩
                -- ENOD
              · have hcn : s.cur ≠ [] := fun h => hc0 (by rw [HCL.out, h]; rfl)
                have hcz : ((cl : Int) == 0) = false := by simpa using hc0
                obtain ⟨w1, hw1⟩ : ∃ w1, w1 = wr.setCell ⟨g, 3, none⟩ (.bool true) := ⟨_, rfl⟩
                obtain ⟨cur, hcur⟩ : ∃ cur, cur = s.cur := ⟨_, rfl⟩
                obtain ⟨used, hused⟩ : ∃ used : Nat → Bool, used = fun x => s.used x || x == e := ⟨_, rfl⟩
                have HA1 : Hid (WrapA w w1 B lx ly hx hy rows N xs gR w.heap.size eb pb oe d used (.slice aoc cl capc) cur u10 ps) := by
                  rw [hw1, HG.out, hused, hcur]; exact HA.out.mark heN
                have hlast : s.last < n ∧ 2 ≤ s.cur.length ∧ (∃ r, r < n ∧ s.cur.head! = dblP rows[r]!.head!) ∧ s.cur.getLast! = dblP rows[s.last]!.getLast! := by
                  have := (HCur.out k).last (by rw [← HS.out]; exact hcn)
                  rw [← HS.out] at this
                  exact this
                obtain ⟨l1, l2, ⟨r0, hr0, l3⟩, l4⟩ := hlast
                obtain ⟨z0, hz0⟩ : ∃ z0, z0 = rows[r0]!.head! := ⟨_, rfl⟩
                obtain ⟨z, hz⟩ : ∃ z, z = rows[s.last]!.getLast! := ⟨_, rfl⟩
                have hrn : ∀ r, r < n → rows[r]! ∈ rows ∧ rows[r]! ≠ [] := fun r hr => by
                  have hr' : r < rows.length := by rw [← HN.out.1]; exact hr
                  rw [getElem!_pos rows r hr']
                  have hm := List.getElem_mem hr'
                  have := HO.out.len _ hm
                  exact ⟨hm, fun e => by rw [e] at this; simp at this⟩
                have mem_h : ∀ r, r < n → Sm (rows[r]!.head!).1 ∧ Sm (rows[r]!.head!).2 := fun r hr => by
                  obtain ⟨h1, h2⟩ := hrn r hr
                  refine HO.out.sm _ h1 _ ?_
                  cases hc : rows[r]! with
                  | nil => exact absurd hc h2
                  | cons a l => exact List.mem_cons_self
                have mem_l : ∀ r, r < n → Sm (rows[r]!.getLast!).1 ∧ Sm (rows[r]!.getLast!).2 := fun r hr => by
                  obtain ⟨h1, h2⟩ := hrn r hr
                  refine HO.out.sm _ h1 _ ?_
                  rw [List.getLast!_eq_getLast?_getD, List.getLast?_eq_some_getLast h2]
                  exact List.getLast_mem h2
                have hz0s : Sm z0.1 ∧ Sm z0.2 := by rw [hz0]; exact mem_h _ hr0
                have hzs : Sm z.1 ∧ Sm z.2 := by rw [hz]; exact mem_l _ l1
                have hpe : p = rows[e / 2]!.head! := by rw [HQ.out.2.2.1, if_pos HO1.out]
                have hps : Sm p.1 ∧ Sm p.2 := by rw [hpe]; exact mem_h _ (by rw [HN.out.1]; exact hrr)
                have hcc : cl = cur.length := by rw [HCL.out, hcur]
                have hoc := HA1.out.m.cur
                rw [← hcc] at hoc
                obtain ⟨gc, rfl, hgcs, k0, k1, k2, k3⟩ := cur_cells hoc hcc (by omega) hz0s hzs (by rw [hcur, l3, hz0]) (by rw [hcur, l4, hz])
                obtain ⟨sd2, hsd2⟩ : ∃ sd2, sd2 = (sideI lx ly hx hy z.1 z.2).toNat := ⟨_, rfl⟩
                have HEZ : Hid (endE lx ly hx hy rows (2 * s.last + 1) = ⟨z.1, z.2, false, sd2, s.last⟩) := by
                  show _ = _
                  unfold endE
                  rw [show (2 * s.last + 1) % 2 = 1 by omega, show (2 * s.last + 1) / 2 = s.last by omega, ← hz, hsd2]
                  simp
                have he2 : e < 2 * rows.length := by rw [← HN.out.1, ← HN2.out]; exact heN
                have hl2 : 2 * s.last + 1 < 2 * rows.length := by rw [← HN.out.1]; omega
                obtain ⟨q1, q2, q3, q4⟩ := HO.out.side e he2
                obtain ⟨v1, v2, v3, v4⟩ := HO.out.side _ hl2
                have hap := HO.out.apart e _ he2 hl2 (by have := HO1.out; omega)
                rw [HEE.out] at q1 q2 q3 q4 hap
                rw [HEZ.out] at v1 v2 v3 v4 hap
                have HPZ : Hid (¬ (p.1 = z.1 ∧ p.2 = z.2)) := fun hh => by
                  have e1 : sd = sd2 := by rw [HQ.out.2.2.2.1, hsd2, hh.1, hh.2]
                  rw [hh.1, hh.2, e1] at hap
                  exact hap rfl
                have hab := fun ao cap B' W hB' hin => aroundBound_any o ho lx ly hx hy p.1 p.2 z.1 z.2 sd sd2 hlx hly hhx hhy hsx hsy hps.1 hps.2 hzs.1 hzs.2 ⟨q1, q2⟩ ⟨v1, v2⟩ q4 v4 q3 v3 hap ao cap B' W hB' hin
                obtain ⟨br, hbr⟩ : ∃ br, br = aroundL o lx ly hx hy (endE lx ly hx hy rows e) (endE lx ly hx hy rows (2 * s.last + 1)) := ⟨_, rfl⟩
                have hbr2 : br = aroundL o lx ly hx hy ⟨p.1, p.2, true, sd, 0⟩ ⟨z.1, z.2, false, sd2, 0⟩ := by rw [hbr, HEE.out, HEZ.out]; rfl
                rw [← hbr2] at hab
                have HAB : Hid (∀ ao cap B' W, B' ≤ W.heap.size → W.ownsRow B' 69 2 (.slice ao 2 cap) 2 ([(p.1, p.2), (z.1, z.2)].flatMap ptE) → Calls Try.prog 54 #[.agg #[.float .f64 (F lx), .float .f64 (F ly), .float .f64 (F hx), .float .f64 (F hy)], .slice ao 2 cap, .int .i8 o] W
                    fun e w' => ∃ ao' cap', Hid (∃ ps : List (Int × Int), ps = (2 * p.1, 2 * p.2) :: (2 * z.1, 2 * z.2) :: br ++ [(2 * p.1, 2 * p.2)] ∧ e = .returned (.slice ao' ps.length cap') ∧ w'.ownsRow B' 69 2 (.slice ao' ps.length cap') ps.length (ps.flatMap hE)) ∧ Below B' W w') := hab
                have hbl : br.length ≤ 8 := by rw [hbr]; exact aroundL_len _ _ _ _ _ _ _
                have HBR : Hid (br = aroundL o lx ly hx hy (endE lx ly hx hy rows e) (endE lx ly hx hy rows (2 * s.last + 1)) ∧ p = rows[e / 2]!.head! ∧ z0 = rows[r0]!.head! ∧ r0 < n ∧ s.cur.head! = dblP z0 ∧ cur = s.cur ∧ (used = fun x => s.used x || x == e) ∧ s.cur ≠ []) := ⟨hbr, hpe, hz0, hr0, by rw [l3, hz0], hcur, hused, hcn⟩
                have HK1 : Hid (∀ W, Below w1.heap.size w1 W → ((W.cell? ⟨g, 0, none⟩ = some (.float .f64 (F p.1)) ∧ W.cell? ⟨g, 1, none⟩ = some (.float .f64 (F p.2))) ∧ (W.cell? ⟨w.heap.size, 0, none⟩ = some (.float .f64 (F lx)) ∧ W.cell? ⟨w.heap.size, 1, none⟩ = some (.float .f64 (F ly)) ∧ W.cell? ⟨w.heap.size, 2, none⟩ = some (.float .f64 (F hx)) ∧ W.cell? ⟨w.heap.size, 3, none⟩ = some (.float .f64 (F hy))) ∧
                    W.cell? ⟨gc, (cl - 1) * 2, none⟩ = some (.float .f64 (F z.1)) ∧ W.cell? ⟨gc, (cl - 1) * 2 + 1, none⟩ = some (.float .f64 (F z.2)))) := fun W hb => by
                  have e0 := (HA1.out.below hb).e.eps e heN
                  rw [HEE.out] at e0
                  rw [HG.out]
                  have eb0 := (HA1.out.below hb).box
                  exact ⟨⟨e0.cell 0, e0.cell 1⟩, ⟨eb0.cell 0, eb0.cell 1, eb0.cell 2, eb0.cell 3⟩, (hb.cell (by exact hgcs)).trans k2, (hb.cell (by exact hgcs)).trans k3⟩
                have HK0 : Hid (∀ W, Below w1.heap.size w1 W → (W.cell? ⟨gc, 0, none⟩ = some (.float .f64 (F z0.1)) ∧ W.cell? ⟨gc, 1, none⟩ = some (.float .f64 (F z0.2)))) := fun W hb => ⟨(hb.cell (by exact hgcs)).trans k0, (hb.cell (by exact hgcs)).trans k1⟩
                obtain ⟨⟨d0, d1⟩, ⟨b0, b1, b2, b3⟩, -, -⟩ := HK1.out w1 (Below.refl _ _)
                have hgs1 : g < w1.heap.size := by rw [HG.out]; exact (HA1.out.e.eps e heN).lt
                have hxs1 : w.heap.size < w1.heap.size := HA1.out.box.lt
                have hcl1 : (1 : Int) ≤ (cl : Int) := by omega
                have hcl0 : (0 : Int) < (cl : Int) := by omega
                have hcl0n : 0 < cl := by omega
                have hcla : (0 : Int) ≤ (cl : Int) - 1 := by omega
                have hclb' : (cl : Int) - 1 < (cl : Int) := by omega
                have hclc : ((cl : Int) - 1).toNat = cl - 1 := by omega
                have hcle : cl - 1 < cl := by omega
                have hclg : ((cl - 1 : Nat) : Int) < (cl : Int) := by omega
                have hcld : IntKind.i64.wrap ((cl : Int) - 1) = (cl : Int) - 1 := IntWalk.i64_in _ (by omega)
                have HW1 : Hid (w1 = wr.setCell ⟨g, 3, none⟩ (.bool true)) := hw1
                clear hoc hcc hab hbr hbr2 hap q1 q2 q3 q4 v1 v2 v3 v4 hpe hsd2 hz hz0 l1 l2 l3 l4 hr0 mem_h mem_l hrn hcur hused hcn he2 hl2
                go_wp2_with fail
                rw [← hw1]
                clear hw1 c0 c1 c2 c3 cq hfz
                go_quiet (fail)
                go_upto_if 134 with fail
                obtain ⟨m, hm⟩ : ∃ m, m = br.length := ⟨_, rfl⟩
                rw [← hm] at hbl
                have HM : Hid (m = br.length) := hm
                have hb2 : Below w1.heap.size w1 (w1.drewN nq) := below_drewN (Below.refl _ _) _
                have HA2 : Hid (WrapA w (w1.drewN nq) B lx ly hx hy rows N xs gR w.heap.size eb pb oe d used (.slice (some ⟨gc, 0, none⟩) cl capc) cur u10 ps) := HA1.out.below hb2
                have HK2 : Hid (∀ W, Below (w1.drewN nq).heap.size (w1.drewN nq) W → ((W.cell? ⟨g, 0, none⟩ = some (.float .f64 (F p.1)) ∧ W.cell? ⟨g, 1, none⟩ = some (.float .f64 (F p.2))) ∧ (W.cell? ⟨w.heap.size, 0, none⟩ = some (.float .f64 (F lx)) ∧ W.cell? ⟨w.heap.size, 1, none⟩ = some (.float .f64 (F ly)) ∧ W.cell? ⟨w.heap.size, 2, none⟩ = some (.float .f64 (F hx)) ∧ W.cell? ⟨w.heap.size, 3, none⟩ = some (.float .f64 (F hy))) ∧
                    W.cell? ⟨gc, (cl - 1) * 2, none⟩ = some (.float .f64 (F z.1)) ∧ W.cell? ⟨gc, (cl - 1) * 2 + 1, none⟩ = some (.float .f64 (F z.2)))) := fun W hb => HK1.out W (hb2.trans (hb.mono hb2.size))
                have HK3 : Hid (∀ W, Below (w1.drewN nq).heap.size (w1.drewN nq) W → (W.cell? ⟨gc, 0, none⟩ = some (.float .f64 (F z0.1)) ∧ W.cell? ⟨gc, 1, none⟩ = some (.float .f64 (F z0.2)))) := fun W hb => HK0.out W (hb2.trans (hb.mono hb2.size))
                clear hm HA1 HK1 HK0 hb2 d0 d1 b0 b1 b2 b3 k0 k1 k2 k3 hgs1 hxs1 hgcs
                generalize w1.drewN nq = w2 at *
                go_cut [14] (fun v14 w3 => ∃ (ar : Option Addr) (cr : Nat), v14 = .slice ar (m + 3) cr ∧ Hid (w3.ownsRow 0 69 2 (.slice ar (m + 3) cr) (m + 3) (((2 * p.1, 2 * p.2) :: (2 * z.1, 2 * z.2) :: br ++ [(2 * p.1, 2 * p.2)]).flatMap hE)) ∧ Below w2.heap.size w2 w3)
                case first =>
                  -- DONE
                  have hpz : p.1 ≠ z.1 ∨ (p.1 = z.1 ∧ p.2 ≠ z.2) := by
                    have := HPZ.out
                    omega
                  obtain ⟨⟨d0, d1⟩, ⟨b0, b1, b2, b3⟩, k2, k3⟩ := HK2.out w2 (Below.refl _ _)
                  rcases hpz with h | ⟨h, h'⟩
                  · have dz : decide (p.1 = z.1) = false := decide_eq_false h
                    clear h
                    go_wp2_with fail
                    go_region_held3 (fun W => ((W.cell? ⟨g, 0, none⟩ = some (.float .f64 (F p.1)) ∧ W.cell? ⟨g, 1, none⟩ = some (.float .f64 (F p.2))) ∧ (W.cell? ⟨w.heap.size, 0, none⟩ = some (.float .f64 (F lx)) ∧ W.cell? ⟨w.heap.size, 1, none⟩ = some (.float .f64 (F ly)) ∧ W.cell? ⟨w.heap.size, 2, none⟩ = some (.float .f64 (F hx)) ∧ W.cell? ⟨w.heap.size, 3, none⟩ = some (.float .f64 (F hy))) ∧
                        W.cell? ⟨gc, (cl - 1) * 2, none⟩ = some (.float .f64 (F z.1)) ∧ W.cell? ⟨gc, (cl - 1) * 2 + 1, none⟩ = some (.float .f64 (F z.2))))
                      ((refine HK2.out _ ?_; repeat (first | with_reducible assumption | with_reducible exact Below.refl _ _ | with_reducible refine Below.drew ?_ | with_reducible refine below_drewN ?_ _ | with_reducible refine below_alloc ?_ _ (Nat.le_refl _))))
                      (first
                        | (go_at_call 54
                           with_reducible refine (HAB.out _ _ w2.heap.size _ (by simp) (by (repeat (with_reducible refine World.ownsRow.drew ?_)); exact own_two _ p z)).mono ?_
                           rintro e wA ⟨ar, cr, HRA, hbA⟩
                           obtain ⟨psr, hpsr, rfl, hownr⟩ := HRA.out
                           have hpl : psr.length = m + 3 := by rw [hpsr, HM.out]; simp
                           rw [hpl] at hownr ⊢
                           have hBA : Below w2.heap.size w2 wA := Below.trans (by repeat (first | with_reducible assumption | with_reducible exact Below.refl _ _ | with_reducible refine Below.drew ?_ | with_reducible refine below_drewN ?_ _ | with_reducible refine below_alloc ?_ _ (Nat.le_refl _))) hbA
                           have HOW : Hid (wA.ownsRow 0 69 2 (.slice ar (m + 3) cr) (m + 3) (((2 * p.1, 2 * p.2) :: (2 * z.1, 2 * z.2) :: br ++ [(2 * p.1, 2 * p.2)]).flatMap hE)) := by
                             have := own_mono hownr (Nat.zero_le _)
                             rw [hpsr] at this
                             exact this
                           clear hownr hpsr hpl HRA))
                    all_goals go_wp2_with fail
                    all_goals go_meet
                    all_goals exact ⟨ar, cr, rfl, HOW, hBA⟩
                  · have dz : decide (p.1 = z.1) = true := decide_eq_true h
                    have dz2 : decide (p.2 = z.2) = false := decide_eq_false h'
                    clear h h'
                    go_wp2_with fail
                    go_region_held3 (fun W => ((W.cell? ⟨g, 0, none⟩ = some (.float .f64 (F p.1)) ∧ W.cell? ⟨g, 1, none⟩ = some (.float .f64 (F p.2))) ∧ (W.cell? ⟨w.heap.size, 0, none⟩ = some (.float .f64 (F lx)) ∧ W.cell? ⟨w.heap.size, 1, none⟩ = some (.float .f64 (F ly)) ∧ W.cell? ⟨w.heap.size, 2, none⟩ = some (.float .f64 (F hx)) ∧ W.cell? ⟨w.heap.size, 3, none⟩ = some (.float .f64 (F hy))) ∧
                        W.cell? ⟨gc, (cl - 1) * 2, none⟩ = some (.float .f64 (F z.1)) ∧ W.cell? ⟨gc, (cl - 1) * 2 + 1, none⟩ = some (.float .f64 (F z.2))))
                      ((refine HK2.out _ ?_; repeat (first | with_reducible assumption | with_reducible exact Below.refl _ _ | with_reducible refine Below.drew ?_ | with_reducible refine below_drewN ?_ _ | with_reducible refine below_alloc ?_ _ (Nat.le_refl _))))
                      (first
                        | (go_at_call 54
                           with_reducible refine (HAB.out _ _ w2.heap.size _ (by simp) (by (repeat (with_reducible refine World.ownsRow.drew ?_)); exact own_two _ p z)).mono ?_
                           rintro e wA ⟨ar, cr, HRA, hbA⟩
                           obtain ⟨psr, hpsr, rfl, hownr⟩ := HRA.out
                           have hpl : psr.length = m + 3 := by rw [hpsr, HM.out]; simp
                           rw [hpl] at hownr ⊢
                           have hBA : Below w2.heap.size w2 wA := Below.trans (by repeat (first | with_reducible assumption | with_reducible exact Below.refl _ _ | with_reducible refine Below.drew ?_ | with_reducible refine below_drewN ?_ _ | with_reducible refine below_alloc ?_ _ (Nat.le_refl _))) hbA
                           have HOW : Hid (wA.ownsRow 0 69 2 (.slice ar (m + 3) cr) (m + 3) (((2 * p.1, 2 * p.2) :: (2 * z.1, 2 * z.2) :: br ++ [(2 * p.1, 2 * p.2)]).flatMap hE)) := by
                             have := own_mono hownr (Nat.zero_le _)
                             rw [hpsr] at this
                             exact this
                           clear hownr hpsr hpl HRA))
                    all_goals go_wp2_with fail
                    all_goals go_meet
                    all_goals exact ⟨ar, cr, rfl, HOW, hBA⟩
                  -- ENOD
                case rest =>
                  obtain ⟨ar, cr, rfl, HOW, hb23⟩ := hcut
                  have HA3 : Hid (WrapA w wc B lx ly hx hy rows N xs gR w.heap.size eb pb oe d used (.slice (some ⟨gc, 0, none⟩) cl capc) cur u10 ps) := HA2.out.below hb23
                  have HK4 : Hid (∀ W, Below wc.heap.size wc W → ((W.cell? ⟨g, 0, none⟩ = some (.float .f64 (F p.1)) ∧ W.cell? ⟨g, 1, none⟩ = some (.float .f64 (F p.2))) ∧ (W.cell? ⟨gc, 0, none⟩ = some (.float .f64 (F z0.1)) ∧ W.cell? ⟨gc, 1, none⟩ = some (.float .f64 (F z0.2))))) :=
                    fun W hb => ⟨(HK2.out W (hb23.trans (hb.mono hb23.size))).1, HK3.out W (hb23.trans (hb.mono hb23.size))⟩
                  obtain ⟨⟨d0, d1⟩, k0, k1⟩ := HK4.out wc (Below.refl _ _)
                  have HC23 : Hid (Below w2.heap.size w2 wc) := hb23
                  have hcr := own_cap HOW.out
                  obtain ⟨gr, rfl⟩ : ∃ gr, ar = some ⟨gr, 0, none⟩ := by
                    rcases HOW.out.2 with ⟨_, h0⟩ | ⟨g', _, _, hv, _⟩
                    · omega
                    · injection hv with e1; exact ⟨g', e1⟩
                  have hpe := pointEq_any p.1 p.2 z0.1 z0.2 hps.1 hps.2 hz0s.1 hz0s.2
                  clear hb23 HA2 HK2 HK3 HAB
                  obtain ⟨tb, htb⟩ : ∃ tb : Bool, tb = decide (p.1 = z0.1 ∧ p.2 = z0.2) := ⟨_, rfl⟩
                  rw [← htb] at hpe
                  have HTB : Hid (tb = decide (p.1 = z0.1 ∧ p.2 = z0.2)) := htb
                  clear htb
                  go_wp2_with fail
                  go_cut [157] (fun v157 w4 => v157 = .bool tb ∧ Below wc.heap.size wc w4)
                  case first =>
                    -- DONE
                    go_region_held3 (fun W => ((W.cell? ⟨g, 0, none⟩ = some (.float .f64 (F p.1)) ∧ W.cell? ⟨g, 1, none⟩ = some (.float .f64 (F p.2))) ∧ (W.cell? ⟨gc, 0, none⟩ = some (.float .f64 (F z0.1)) ∧ W.cell? ⟨gc, 1, none⟩ = some (.float .f64 (F z0.2)))))
                      ((refine HK4.out _ ?_; repeat (first | with_reducible assumption | with_reducible exact Below.refl _ _ | with_reducible refine Below.drew ?_ | with_reducible refine below_drewN ?_ _ | with_reducible refine below_alloc ?_ _ (Nat.le_refl _))))
                      (first
                        | (go_at_call 55
                           with_reducible refine (hpe _).mono ?_
                           rintro e wA ⟨rfl, hbA⟩
                           have hBA : Below wc.heap.size wc wA := below_step (by repeat (first | with_reducible assumption | with_reducible exact Below.refl _ _ | with_reducible refine Below.drew ?_ | with_reducible refine below_drewN ?_ _ | with_reducible refine below_alloc ?_ _ (Nat.le_refl _))) hbA))
                    all_goals try go_wp2_with fail
                    all_goals go_meet
                    all_goals exact ⟨rfl, hBA⟩
                    -- ENOD
                  case rest =>
                    obtain ⟨rfl, hb34⟩ := hcut
                    have HA4 : Hid (WrapA w wc B lx ly hx hy rows N xs gR w.heap.size eb pb oe d used (.slice (some ⟨gc, 0, none⟩) cl capc) cur u10 ps) := HA3.out.below hb34
                    have HOW4 : Hid (wc.ownsRow 0 69 2 (.slice (some ⟨gr, 0, none⟩) (m + 3) cr) (m + 3) (((2 * p.1, 2 * p.2) :: (2 * z.1, 2 * z.2) :: br ++ [(2 * p.1, 2 * p.2)]).flatMap hE)) := own_below HOW.out hb34 (Nat.le_refl _)
                    have HCC : Hid (cl = cur.length) := by show _ = _; rw [HBR.out.2.2.2.2.2.1]; exact HCL.out
                    obtain ⟨ip, hjp, hp0, hp1, hp2⟩ := info_parts Try.info69
                    have hmz : (m : Int) ≤ 8 := by omega
                    have hmz0 : (0 : Int) ≤ (m : Int) := by omega
                    clear hb34 HA3 HOW HK4 HC23 d0 d1 k0 k1 hpe
                    cases tb with
                    | true =>
                      -- DONE
                      obtain ⟨NW, hNW⟩ : ∃ NW : List Value, NW = (br ++ [(2 * p.1, 2 * p.2)]).flatMap hE := ⟨_, rfl⟩
                      have hnl : NW.length = (m + 1) * 2 := by rw [hNW, hE_len, HM.out]; simp
                      have hnn : Hid (∀ j u, NW[j]? = some u → wc.cell? ((⟨gr, 4, none⟩ : Addr).add j) = some u) := by rw [hNW]; exact drop_news HOW4.out
                      have hn1' : Hid (∀ u ∈ NW, u.oneCell' = true) := by rw [hNW]; exact hE_one
                      obtain ⟨XC, hXC⟩ : ∃ XC : List Value, XC = cur.flatMap hE := ⟨_, rfl⟩
                      have HXC : Hid (XC = cur.flatMap hE ∧ NW = (br ++ [(2 * p.1, 2 * p.2)]).flatMap hE) := ⟨hXC, hNW⟩
                      have hoc : Hid (wc.ownsRow B 69 2 (.slice (some ⟨gc, 0, none⟩) cl capc) cl XC) := by rw [hXC, HCC.out]; have := HA4.out.m.cur; rw [← HCC.out] at this ⊢; exact this
                      have hBc := HA4.out.hB
                      clear hNW hXC HOW4
                      go_wp2_with (at_builtin; refine wpList_append_lies _ rfl _ _ 74 rfl B 69 ip _ 2 16 Try.underlying74 hjp hp0 hp1 hp2 rfl (by decide) (.slice (some ⟨gc, 0, none⟩) cl capc) cl XC rfl hoc.out ⟨gr, 4, none⟩ (m + 1) _ NW rfl hnl hnn.out hn1'.out (by omega) (by unfold maxLen; omega) (by omega) hBc _ rfl ?_)
                      intro g2 cap2 w5 hown5 hgr5 hat5 hlt5
                      have HA5 : Hid (WrapA w w5 B lx ly hx hy rows N xs gR w.heap.size eb pb oe d used (.slice (some ⟨g2, 0, none⟩) (cl + (m + 1)) cap2) (cur ++ (br ++ [(2 * p.1, 2 * p.2)])) u10 ps) := by
                        have hq1 : (br ++ [(2 * p.1, 2 * p.2)]).length = m + 1 := by rw [HM.out]; simp
                        have := HA4.out.push (qs := br ++ [(2 * p.1, 2 * p.2)]) (w' := w5) (g2 := g2) (cap2 := cap2) hgr5 hat5 (by rw [hq1, ← HCC.out, ← HXC.out.1, ← HXC.out.2]; exact hown5)
                        rw [hq1, ← HCC.out] at this
                        exact this
                      obtain ⟨aor, capr, hrv, hor, _⟩ := HA5.out.m.pol
                      subst hrv
                      obtain ⟨pn, hpn⟩ : ∃ pn, pn = ps.length := ⟨_, rfl⟩
                      obtain ⟨PL, hPL⟩ : ∃ PL : List Value, PL = ps.map Prod.fst := ⟨_, rfl⟩
                      have HPL : Hid (pn = ps.length ∧ PL = ps.map Prod.fst) := ⟨hpn, hPL⟩
                      rw [← hpn, ← hPL] at hor
                      rw [← hpn] at HA5
                      have hpnb : pn ≤ 100000 := by
                        have h1 : ps.length = s.res.length := by
                          have := congrArg List.length HR.out
                          simpa using this
                        have h2 := (HCur.out k).res
                        rw [← HS.out] at h2
                        omega
                      have HOR : Hid (w5.ownsRow B 86 1 (.slice aor pn capr) pn PL) := hor
                      have hB5 := HA5.out.hB
                      obtain ⟨iq, hjq, hq0, hq1, hq2⟩ := info_parts Try.info86
                      rw [← hpn]
                      clear hown5 hgr5 hat5 hlt5 hor hpn hPL hnn hn1' hoc HXC hBc HA4
                      have hs6 : (w5.alloc (.cells #[.slice (some ⟨g2, 0, none⟩) (cl + (m + 1)) cap2] 74)).heap.size = w5.heap.size + 1 := by simp
                      have hb56 : Below w5.heap.size w5 (w5.alloc (.cells #[.slice (some ⟨g2, 0, none⟩) (cl + (m + 1)) cap2] 74)) := (Below.refl _ _).alloc (Nat.le_refl _) _
                      have HG6 : Hid (Blk (w5.alloc (.cells #[.slice (some ⟨g2, 0, none⟩) (cl + (m + 1)) cap2] 74)) w5.heap.size #[.slice (some ⟨g2, 0, none⟩) (cl + (m + 1)) cap2] 74) := Blk.new _ _ _
                      have HO6 : Hid ((w5.alloc (.cells #[.slice (some ⟨g2, 0, none⟩) (cl + (m + 1)) cap2] 74)).ownsRow B 86 1 (.slice aor pn capr) pn PL) := own_below HOR.out hb56 (Nat.le_refl _)
                      have HS6 : Hid ((w5.alloc (.cells #[.slice (some ⟨g2, 0, none⟩) (cl + (m + 1)) cap2] 74)).heap.size = w5.heap.size + 1) := hs6
                      have HB6 : Hid (Below w5.heap.size w5 (w5.alloc (.cells #[.slice (some ⟨g2, 0, none⟩) (cl + (m + 1)) cap2] 74))) := hb56
                      clear hs6 hb56
                      go_wp2_with (at_builtin; refine wpList_push rfl _ _ 66 rfl 86 iq _ 1 24 Try.underlying66 hjq hq0 hq1 hq2 rfl (by decide) (by decide) w5 (w5.alloc (.cells #[.slice (some ⟨g2, 0, none⟩) (cl + (m + 1)) cap2] 74)) B (.slice aor pn capr) pn PL rfl HO6.out B (HB6.out.mono hB5) (Nat.le_refl _) (by rw [HS6.out]; omega) (by omega) [.slice (some ⟨w5.heap.size, 0, none⟩) 1 1] 86 (w5.heap.size + 1) HS6.out 1 rfl rfl (by simp [Value.oneCell']) ?_)
                      intro g3 cap3 w7 hown7 hbel7 hsz7 hgr7 hat7 hlt7
                      have HA7 : Hid (WrapA w w7 B lx ly hx hy rows N xs gR w.heap.size eb pb oe d used (.slice none 0 0) [] (.slice (some ⟨g3, 0, none⟩) (pn + 1) cap3) (ps ++ [(.slice (some ⟨w5.heap.size, 0, none⟩) 1 1, [(.slice (some ⟨g2, 0, none⟩) (cl + (m + 1)) cap2, cur ++ (br ++ [(2 * p.1, 2 * p.2)]))])])) := by
                        have := HA5.out.done (w1 := (w5.alloc (.cells #[.slice (some ⟨g2, 0, none⟩) (cl + (m + 1)) cap2] 74)).alloc (.cells #[.slice (some ⟨w5.heap.size, 0, none⟩) 1 1] 86)) (w2 := w7) (gp := w5.heap.size) (g2 := g3) (cap2 := cap3) (HB6.out.alloc (by rw [HS6.out]; omega) _) rfl (HG6.out.alloc _) hgr7 (by rw [← HPL.out.1, ← HPL.out.2]; exact hown7)
                        rw [← HPL.out.1] at this
                        exact this
                      clear hown7 hbel7 hsz7 hgr7 hat7 hlt7 HA5 HOR HO6 HG6 HB6 HS6
                      go_wp2_with fail
                      go_roundg (gk - 1)
                      case measure => have := HL.out.2; omega
                      case rel =>
                        have hpz0 := of_decide_eq_true HTB.out.symm
                        have hpp : dblP (rows[e / 2]!.head!) = s.cur.head! := by
                          rw [HBR.out.2.2.2.2.1, ← HBR.out.2.1]
                          exact congrArg dblP (Prod.ext hpz0.1 hpz0.2)
                        obtain ⟨s', hs'⟩ : ∃ s' : WSt, s' = { i := 0, used := fun x => s.used x || x == e, cur := [], last := 0, res := s.res ++ [s.cur ++ aroundL o lx ly hx hy (endE lx ly hx hy rows e) (endE lx ly hx hy rows (2 * s.last + 1)) ++ [dblP (rows[e / 2]!.head!)]] } := ⟨_, rfl⟩
                        have HS' : Hid (s' = runW o lx ly hx hy rows d oe (k + 1) initW) := HST.out _ ((stepW_done HL.out.1 HE0.out HQ.out.2.2.2.2.2.1.symm HO1.out HBR.out.2.2.2.2.2.2.2 hpp).trans hs'.symm)
                        have e1 : s'.res = s.res ++ [s.cur ++ aroundL o lx ly hx hy (endE lx ly hx hy rows e) (endE lx ly hx hy rows (2 * s.last + 1)) ++ [dblP (rows[e / 2]!.head!)]] := by rw [hs']
                        have e2 : s'.i = 0 := by rw [hs']
                        have e3 : s'.used = used := by rw [hs', HBR.out.2.2.2.2.2.2.1]
                        have e4 : s'.cur = [] := by rw [hs']
                        clear hs' hpp
                        refine ⟨k + 1, s', ps ++ [(.slice (some ⟨w5.heap.size, 0, none⟩) 1 1, [(.slice (some ⟨g2, 0, none⟩) (cl + (m + 1)) cap2, cur ++ (br ++ [(2 * p.1, 2 * p.2)]))])], by have := HL.out.2; omega, HS', ?_, ?_, ?_⟩
                        · show _ = _
                          have e5 : cur ++ (br ++ [(2 * p.1, 2 * p.2)]) = s.cur ++ aroundL o lx ly hx hy (endE lx ly hx hy rows e) (endE lx ly hx hy rows (2 * s.last + 1)) ++ [dblP (rows[e / 2]!.head!)] := by
                            rw [← HBR.out.2.1, ← HBR.out.1, HBR.out.2.2.2.2.2.1, List.append_assoc]; rfl
                          rw [e1, List.map_append, List.map_append, HR.out, ← e5]
                          rfl
                        · rw [e2]; rfl
                        · show WrapA _ _ _ _ _ _ _ _ _ _ _ _ _ _ _ _ _ _ _ _ _
                          rw [e3, e4]
                          exact HA7.out
                      -- ENOD
                    | false =>
                      have hmc : IntKind.i64.wrap ((m : Int) + 3 - 1) = (m : Int) + 3 - 1 := IntWalk.i64_in _ (by omega)
                      have hmd : ((m : Int) + 3 - 1).toNat = m + 2 := by omega
                      have hm2 : (2 : Int) < (m : Int) + 3 := by omega
                      have hB4 := HA4.out.hB
                      go_upto_if 169 with fail
                      go_cut [11] (fun v11 w5 => ∃ (g2 cap2 : Nat), v11 = .slice (some ⟨g2, 0, none⟩) (cl + m) cap2 ∧ Hid (WrapA w w5 B lx ly hx hy rows N xs gR w.heap.size eb pb oe d used (.slice (some ⟨g2, 0, none⟩) (cl + m) cap2) (cur ++ br) u10 ps))
                      case first =>
                        -- DONE
                        by_cases hm0 : m = 0
                        · have hbn : br = [] := List.eq_nil_of_length_eq_zero (by rw [← HM.out]; exact hm0)
                          have HA5 : Hid (WrapA w wc B lx ly hx hy rows N xs gR w.heap.size eb pb oe d used (.slice (some ⟨gc, 0, none⟩) (cl + 0) capc) (cur ++ br) u10 ps) := by rw [hbn, List.append_nil]; exact HA4.out
                          have hcc0 : cl ≤ capc := by have := HA4.out.m.cur; rw [← HCC.out] at this; exact own_cap this
                          subst hm0
                          clear hbn
                          go_wp2_with (at_builtin; refine wpList_appendNone rfl _ _ 74 rfl 69 ip Try.underlying74 hjp _ (some ⟨gc, 0, none⟩) (some ⟨gr, 4, none⟩) cl capc _ hcc0 rfl rfl ?_)
                          go_wp2_with fail
                          go_meet
                          exact ⟨gc, capc, rfl, HA5⟩
                        · obtain ⟨NW, hNW⟩ : ∃ NW : List Value, NW = br.flatMap hE := ⟨_, rfl⟩
                          have hnl : NW.length = m * 2 := by rw [hNW, hE_len, HM.out]
                          have hnn : Hid (∀ j u, NW[j]? = some u → wc.cell? ((⟨gr, 4, none⟩ : Addr).add j) = some u) := by
                            intro j u hj
                            rw [hNW] at hj
                            refine drop_news HOW4.out j u ?_
                            show ((br ++ [(2 * p.1, 2 * p.2)]).flatMap hE)[j]? = some u
                            rw [List.flatMap_append, List.getElem?_append_left (by
                              rcases Nat.lt_or_ge j (br.flatMap hE).length with h | h
                              · exact h
                              · rw [List.getElem?_eq_none h] at hj; cases hj)]
                            exact hj
                          have hn1' : Hid (∀ u ∈ NW, u.oneCell' = true) := by rw [hNW]; exact hE_one
                          obtain ⟨XC, hXC⟩ : ∃ XC : List Value, XC = cur.flatMap hE := ⟨_, rfl⟩
                          have HXC : Hid (XC = cur.flatMap hE ∧ NW = br.flatMap hE) := ⟨hXC, hNW⟩
                          have hoc : Hid (wc.ownsRow B 69 2 (.slice (some ⟨gc, 0, none⟩) cl capc) cl XC) := by rw [hXC, HCC.out]; have := HA4.out.m.cur; rw [← HCC.out] at this ⊢; exact this
                          have hmp : 0 < m := by omega
                          clear hNW hXC HOW4
                          go_wp2_with (at_builtin; refine wpList_append_lies _ rfl _ _ 74 rfl B 69 ip _ 2 16 Try.underlying74 hjp hp0 hp1 hp2 rfl (by decide) (.slice (some ⟨gc, 0, none⟩) cl capc) cl XC rfl hoc.out ⟨gr, 4, none⟩ m _ NW rfl hnl hnn.out hn1'.out hmp (by unfold maxLen; omega) (by omega) hB4 _ rfl ?_)
                          intro g2 cap2 w5 hown5 hgr5 hat5 hlt5
                          have HA5 : Hid (WrapA w w5 B lx ly hx hy rows N xs gR w.heap.size eb pb oe d used (.slice (some ⟨g2, 0, none⟩) (cl + m) cap2) (cur ++ br) u10 ps) := by
                            have := HA4.out.push (qs := br) (w' := w5) (g2 := g2) (cap2 := cap2) hgr5 hat5 (by rw [← HM.out, ← HCC.out, ← HXC.out.1, ← HXC.out.2]; exact hown5)
                            rw [← HM.out, ← HCC.out] at this
                            exact this
                          clear hown5 hgr5 hat5 hlt5 hnn hn1' hoc HXC
                          go_wp2_with fail
                          go_meet
                          exact ⟨g2, cap2, rfl, HA5⟩
                        -- ENOD
                      case rest =>
                        obtain ⟨g2, cap2, rfl, HA5⟩ := hcut
                        have hne0 : dblP (rows[e / 2]!.head!) ≠ s.cur.head! := fun h => by
                          rw [HBR.out.2.2.2.2.1, ← HBR.out.2.1] at h
                          have h1 := congrArg Prod.fst h
                          have h2 := congrArg Prod.snd h
                          simp only [dblP] at h1 h2
                          exact of_decide_eq_false HTB.out.symm ⟨by omega, by omega⟩
                        have hsafe : s.used (e + 1) = false := by
                          have := HF.out.2 k
                          rw [← HS.out] at this
                          have := this HL.out.1 (by rw [HE0.out]; exact HO1.out) (by rw [HE0.out]; exact HQ.out.2.2.2.2.2.1.symm) HBR.out.2.2.2.2.2.2.2 (by rw [HE0.out]; exact hne0)
                          rw [HE0.out] at this
                          exact this
                        have hused1 : used (2 * (e / 2) + 1) = false := by
                          have e1 : 2 * (e / 2) + 1 = e + 1 := by have := HO1.out; omega
                          rw [e1, HBR.out.2.2.2.2.2.2.1]
                          simp only [hsafe, Bool.false_or, beq_eq_false_iff_ne]
                          omega
                        obtain ⟨aq, cq', hxv, hoq'⟩ := HA5.out.m.rows (e / 2) hrx hused1
                        have hxr := HRow.out _ hrx hrr
                        have hrlen := HO.out.len _ (List.getElem_mem hrr)
                        rw [← hxr] at hrlen
                        obtain ⟨Lx, hLx⟩ : ∃ Lx, Lx = xs[e / 2].2.length := ⟨_, rfl⟩
                        rw [← hLx] at hrlen hoq' hxv
                        obtain ⟨gx, rfl⟩ : ∃ gx, aq = some ⟨gx, 0, none⟩ := by
                          rcases hoq'.2 with ⟨_, h0⟩ | ⟨g', _, _, hv, _⟩
                          · omega
                          · injection hv with e1; exact ⟨g', e1⟩
                        obtain ⟨NX, hNX⟩ : ∃ NX : List Value, NX = xs[e / 2].2.flatMap ptE := ⟨_, rfl⟩
                        rw [← hNX] at hoq'
                        have HNX : Hid (NX = (dbl rows[e / 2]!).flatMap hE ∧ (dbl rows[e / 2]!).length = Lx) := by
                          constructor
                          · rw [hNX, hxr, getElem!_pos rows _ hrr]
                            unfold dbl
                            rw [List.flatMap_map]
                            exact (flat_cong' fun p hp => hE_dbl (HO.out.sm _ (List.getElem_mem hrr) p hp).1 (HO.out.sm _ (List.getElem_mem hrr) p hp).2).symm
                          · rw [hLx, hxr, getElem!_pos rows _ hrr]; simp [dbl]
                        have hone : Hid (∀ u ∈ NX, u.oneCell' = true) := by rw [hNX]; exact pts_one
                        obtain ⟨XC, hXC⟩ : ∃ XC : List Value, XC = (cur ++ br).flatMap hE := ⟨_, rfl⟩
                        have HXC : Hid (XC = (cur ++ br).flatMap hE ∧ cl + m = (cur ++ br).length) := ⟨hXC, by rw [List.length_append, ← HCC.out, ← HM.out]⟩
                        have hoc : Hid (wc.ownsRow B 69 2 (.slice (some ⟨g2, 0, none⟩) (cl + m) cap2) (cl + m) XC) := by rw [hXC]; have := HA5.out.m.cur; rw [← HXC.out.2] at this; exact this
                        have HOX : Hid (wc.ownsRow 0 69 2 (.slice (some ⟨gx, 0, none⟩) Lx cq') Lx NX) := hoq'
                        have cr5 : wc.cell? ⟨gR, ix, none⟩ = some (.slice (some ⟨gx, 0, none⟩) Lx cq') := by rw [← hxv, HQ.out.2.2.2.2.2.2.2]; exact HA5.out.gr (e / 2) hrx
                        have c5 : wc.cell? ⟨g, 5, none⟩ = some (.int .i64 ix) := by
                          have := (HA5.out.e.eps e heN).cell 5
                          rw [HEE.out] at this
                          rw [HG.out, HQ.out.2.2.2.2.2.2.2]; exact this
                        have hB5 := HA5.out.hB
                        obtain ⟨w5, hw5⟩ : ∃ w5, w5 = wc := ⟨_, rfl⟩
                        clear hused1 hoq' hxv hxr hNX hXC hLx HOW4 HA4 hsafe
                        have HN0 : Hid (dblP (rows[e / 2]!.head!) ≠ s.cur.head!) := hne0
                        clear hne0
                        go_wp2_with (at_builtin; refine wpList_pushAllT rfl _ _ 74 100 rfl 69 Try.underlying100 69 ip _ 2 16 Try.underlying74 hjp hp0 hp1 hp2 rfl (by decide) (by decide) wc wc B (.slice (some ⟨g2, 0, none⟩) (cl + m) cap2) (cl + m) XC rfl hoc.out B (Below.refl _ _) (Nat.le_refl _) hB5 (by omega) NX 0 gx Lx cq' 69 HOX.out (by omega) (by omega) rfl hone.out hB5 ?_)
                        intro g3 cap3 w6 hown6 hbel6 hgr6 hat6 hlt6
                        have HA6 : Hid (WrapA w w6 B lx ly hx hy rows N xs gR w.heap.size eb pb oe d used (.slice (some ⟨g3, 0, none⟩) (cl + m + Lx) cap3) (cur ++ br ++ dbl rows[e / 2]!) u10 ps) := by
                          have := HA5.out.push (qs := dbl rows[e / 2]!) (w' := w6) (g2 := g3) (cap2 := cap3) hgr6 hat6 (by rw [HNX.out.2, ← HXC.out.1, ← HXC.out.2, ← HNX.out.1]; exact hown6)
                          rw [HNX.out.2, ← HXC.out.2] at this
                          exact this
                        have hmate : d[oq]! = e + 1 := by
                          have h1 := (HSO.out.2.1.2 e (by rw [← HN2.out]; exact heN)).2
                          rw [HQ.out.2.2.2.2.2.2.1, h1]
                          unfold mateE
                          rw [if_pos HO1.out]
                        have he1N : e + 1 < N := by have := HO1.out; have := HN2.out; omega
                        obtain ⟨g', hg'⟩ : ∃ g', g' = eb (e + 1) := ⟨_, rfl⟩
                        have r6 : w6.cell? ⟨pb, oq, none⟩ = some (.pointer (some ⟨g', 0, none⟩)) := by
                          have := HA6.out.e.row oq hoqN
                          rw [hmate, ← hg'] at this
                          exact this
                        have c6 : w6.cell? ⟨g, 6, none⟩ = some (.int .i64 oq) := by
                          have := (HA6.out.e.eps e heN).cell 6
                          rw [HG.out, HQ.out.2.2.2.2.2.2.1]; exact this
                        have fz6 : w6.frozen? ⟨g', 3, none⟩ = false := by rw [hg']; exact (HA6.out.e.eps _ he1N).frozen 3
                        have u6 : ∃ bb : Bool, w6.cell? ⟨g', 3, none⟩ = some (.bool bb) := by rw [hg']; exact ⟨_, (HA6.out.e.eps _ he1N).cell 3⟩
                        obtain ⟨bb, u6⟩ := u6
                        have HA7 : Hid (WrapA w (w6.setCell ⟨g', 3, none⟩ (.bool true)) B lx ly hx hy rows N xs gR w.heap.size eb pb oe d (fun x => used x || x == e + 1) (.slice (some ⟨g3, 0, none⟩) (cl + m + Lx) cap3) (cur ++ br ++ dbl rows[e / 2]!) u10 ps) := by
                          rw [hg']; exact HA6.out.mark he1N
                        have c7 : (w6.setCell ⟨g', 3, none⟩ (.bool true)).cell? ⟨g, 6, none⟩ = some (.int .i64 oq) := by
                          have := (HA7.out.e.eps e heN).cell 6
                          rw [HG.out, HQ.out.2.2.2.2.2.2.1]; exact this
                        have hoqz : (oq : Int) < (N : Int) := by omega
                        have hoqz0 : (0 : Int) ≤ (oq : Int) := by omega
                        clear hown6 hbel6 hgr6 hat6 hlt6 hone hoc HOX HA5 HXC HNX cr5 c5 hmate hg' HA6
                        go_wp2_with fail
                        go_roundg (gk - 1)
                        case measure => have := HL.out.2; omega
                        case rel =>
                          refine ⟨k + 1, _, ps, by have := HL.out.2; omega, HST.out _ (stepW_more HL.out.1 HE0.out HQ.out.2.2.2.2.2.1.symm HO1.out HBR.out.2.2.2.2.2.2.2 HN0.out), HR, ?_, ?_⟩
                          · show _ = Value.int .i64 ((oe e + 1 : Nat) : Int)
                            rw [← HQ.out.2.2.2.2.2.2.1]; go_num
                          · have := HA7.out
                            rw [HBR.out.2.2.2.2.2.2.1, HBR.out.1, HBR.out.2.2.2.2.2.1] at this
                            exact this
        · have h1 : 2 * d.size ≤ s.i := by rw [HDs.out.1, ← HI.out]; have := HN2.out; omega
          have h2 : Hid (2 * d.size ≤ (runW o lx ly hx hy rows d oe k initW).i ∧ k ≤ 100000 ∧ ps.map (fun x => x.2.map Prod.snd) = (runW o lx ly hx hy rows d oe k initW).res.map (fun r => [r])) := by
            rw [← HS.out]; exact ⟨h1, by omega, HR.out⟩
          have hz : ¬ ((i : Int) < 2 * (N : Int)) := by omega
          clear h1
          go_wp2_with fail
          go_ret
          exact ⟨_, rfl, ps, ⟨d, oe, k, HSO.out, h2.out⟩, HA.out.m.pol, HA.out.bel⟩
end Go.Proofs.Ytafanlbfbfbeoaa
