/- What the proofs over smartclip lean on, part 28 of 48. -/
import Derived.Test.YtafanlbfbfbeoaaM25

/- Around the box, turning one way. -/
namespace Go.Proofs.Ytafanlbfbfbeoaa
open Go.RowKit

set_option maxRecDepth 1000000 in
set_option maxHeartbeats 4000000 in
theorem aroundBound_cw (lx ly hx hy x1 y1 x2 y2 : Int) (s1 s2 : Nat) (hlx : Sm lx) (hly : Sm ly) (hhx : Sm hx) (hhy : Sm hy) (hsx : Sm (hx + lx)) (hsy : Sm (hy + ly)) (h1 : Sm x1) (h2 : Sm y1) (h3 : Sm x2) (h4 : Sm y2)
    (hs1 : 1 ≤ s1 ∧ s1 ≤ 4) (hs2 : 1 ≤ s2 ∧ s2 ≤ 4) (hc1 : codeS lx ly hx hy x1 y1 = midC s1) (hc2 : codeS lx ly hx hy x2 y2 = midC s2) (hd1 : sideI lx ly hx hy x1 y1 = s1) (hd2 : sideI lx ly hx hy x2 y2 = s2)
    (hne : EPt.pos ⟨x1, y1, true, s1, 0⟩ ≠ EPt.pos ⟨x2, y2, false, s2, 0⟩) (ao : Option Addr) (cap B : Nat) (w : World) (hB : B ≤ w.heap.size) (hin : w.ownsRow B 69 2 (.slice ao 2 cap) 2 ([(x1, y1), (x2, y2)].flatMap ptE)) :
    Calls Try.prog 54 #[.agg #[.float .f64 (F lx), .float .f64 (F ly), .float .f64 (F hx), .float .f64 (F hy)], .slice ao 2 cap, .int .i8 (-1)] w
      fun e w' => ∃ ao' cap', Hid (∃ ps : List (Int × Int), ps = (2 * x1, 2 * y1) :: (2 * x2, 2 * y2) :: aroundL (-1) lx ly hx hy ⟨x1, y1, true, s1, 0⟩ ⟨x2, y2, false, s2, 0⟩ ++ [(2 * x1, 2 * y1)] ∧ e = .returned (.slice ao' ps.length cap') ∧ w'.ownsRow B 69 2 (.slice ao' ps.length cap') ps.length (ps.flatMap hE)) ∧ Below B w w' := by
  obtain ⟨g, hg, hc⟩ := pts_read (ps := [(x1, y1), (x2, y2)]) hin
  obtain ⟨rfl, hgs, hgB⟩ := hg (by simp)
  have c0 : w.cell? ⟨g, 0, none⟩ = some (.float .f64 (F x1)) := (hc 0 (by simp)).1
  have c1 : w.cell? ⟨g, 1, none⟩ = some (.float .f64 (F y1)) := (hc 0 (by simp)).2
  have c2 : w.cell? ⟨g, 2, none⟩ = some (.float .f64 (F x2)) := (hc 1 (by simp)).1
  have c3 : w.cell? ⟨g, 3, none⟩ = some (.float .f64 (F y2)) := (hc 1 (by simp)).2
  have hnx := nexts_any (-1) (by omega)
  rw [show nextsV (-1) = .agg nxA from rfl] at hnx
  unfold nxA at hnx
  have hb1 := bitCodeSmart_any lx ly hx hy x1 y1 hlx hly hhx hhy h1 h2
  have hb2 := bitCodeSmart_any lx ly hx hy x2 y2 hlx hly hhx hhy h3 h4
  rw [hc1] at hb1
  rw [hc2] at hb2
  have HCELL : Hid (w.cell? ⟨g, 2, none⟩ = some (.float .f64 (F x2)) ∧ w.cell? ⟨g, 3, none⟩ = some (.float .f64 (F y2))) := ⟨c2, c3⟩
  have HS : Hid ((sideI lx ly hx hy x1 y1 = s1) ∧ (sideI lx ly hx hy x2 y2 = s2)) := ⟨hd1, hd2⟩
  obtain ⟨XI, hXI⟩ : ∃ XI : List Value, XI = [(x1, y1), (x2, y2)].flatMap ptE := ⟨_, rfl⟩
  rw [← hXI] at hin
  have HXI : Hid (XI = [(x1, y1), (x2, y2)].flatMap ptE) := hXI
  have HIN : Hid (w.ownsRow B 69 2 (.slice (some ⟨g, 0, none⟩) 2 cap) 2 XI) := hin
  clear hXI
  have HNE : Hid (EPt.pos ⟨x1, y1, true, s1, 0⟩ ≠ EPt.pos ⟨x2, y2, false, s2, 0⟩) := hne
  have HSS : Hid ((1 ≤ s1 ∧ s1 ≤ 4) ∧ (1 ≤ s2 ∧ s2 ≤ 4)) := ⟨hs1, hs2⟩
  clear hd1 hd2 hin hg hc hc1 hc2 hne hs1 hs2
  have hbx := Blk.new w #[.float .f64 (F lx), .float .f64 (F ly), .float .f64 (F hx), .float .f64 (F hy)] 71
  have hB0 : Below w.heap.size w (w.alloc (.cells #[.float .f64 (F lx), .float .f64 (F ly), .float .f64 (F hx), .float .f64 (F hy)] 71)) := (Below.refl _ _).alloc (Nat.le_refl _) _
  obtain ⟨i1, hj, hy0, hy1, hy2⟩ := info_parts Try.info69
  go_enter Try.func54, Try.ntmps54
  go_wp2_with fail
  (with_reducible refine (hnx _).mono ?_)
  rintro e w1 ⟨rfl, hbn⟩
  have hB1 := hB0.trans (hbn.mono hB0.size)
  have hbx1 := hbx.below hbn hbx.lt
  have hs1w := hB1.size
  clear hnx hbn hbx hB0
  have d0 : w1.cell? ⟨g, 0, none⟩ = some (.float .f64 (F x1)) := (hB1.cell (by exact hgs)).trans c0
  have d1 : w1.cell? ⟨g, 1, none⟩ = some (.float .f64 (F y1)) := (hB1.cell (by exact hgs)).trans c1
  have d2 : w1.cell? ⟨g, 2, none⟩ = some (.float .f64 (F x2)) := (hB1.cell (by exact hgs)).trans c2
  have d3 : w1.cell? ⟨g, 3, none⟩ = some (.float .f64 (F y2)) := (hB1.cell (by exact hgs)).trans c3
  have hgs1 : g < w1.heap.size := Nat.lt_of_lt_of_le hgs hs1w
  clear c0 c1 c2 c3
  go_upto_region 6 with fail
  have n1 : Blk (w1.alloc (.cells #[.int .i64 (-1), .int .i64 9, .int .i64 6, .int .i64 (-1), .int .i64 5, .int .i64 1, .int .i64 4, .int .i64 (-1), .int .i64 10, .int .i64 8, .int .i64 2] 130)) w1.heap.size nxA 130 := Blk.new w1 _ _
  obtain ⟨b7, hb7⟩ : ∃ b, b = w1.heap.size := ⟨_, rfl⟩
  have hB2 : Below w.heap.size w (w1.alloc (.cells #[.int .i64 (-1), .int .i64 9, .int .i64 6, .int .i64 (-1), .int .i64 5, .int .i64 1, .int .i64 4, .int .i64 (-1), .int .i64 10, .int .i64 8, .int .i64 2] 130)) := hB1.alloc hs1w _
  have hbx2 := hbx1.alloc (.cells #[.int .i64 (-1), .int .i64 9, .int .i64 6, .int .i64 (-1), .int .i64 5, .int .i64 1, .int .i64 4, .int .i64 (-1), .int .i64 10, .int .i64 8, .int .i64 2] 130)
  have e0 : (w1.alloc (.cells #[.int .i64 (-1), .int .i64 9, .int .i64 6, .int .i64 (-1), .int .i64 5, .int .i64 1, .int .i64 4, .int .i64 (-1), .int .i64 10, .int .i64 8, .int .i64 2] 130)).cell? ⟨g, 0, none⟩ = some (.float .f64 (F x1)) := by rw [World.cell?_alloc_past _ _ _ hgs1]; exact d0
  have e1 : (w1.alloc (.cells #[.int .i64 (-1), .int .i64 9, .int .i64 6, .int .i64 (-1), .int .i64 5, .int .i64 1, .int .i64 4, .int .i64 (-1), .int .i64 10, .int .i64 8, .int .i64 2] 130)).cell? ⟨g, 1, none⟩ = some (.float .f64 (F y1)) := by rw [World.cell?_alloc_past _ _ _ hgs1]; exact d1
  have e2 : (w1.alloc (.cells #[.int .i64 (-1), .int .i64 9, .int .i64 6, .int .i64 (-1), .int .i64 5, .int .i64 1, .int .i64 4, .int .i64 (-1), .int .i64 10, .int .i64 8, .int .i64 2] 130)).cell? ⟨g, 2, none⟩ = some (.float .f64 (F x2)) := by rw [World.cell?_alloc_past _ _ _ hgs1]; exact d2
  have e3 : (w1.alloc (.cells #[.int .i64 (-1), .int .i64 9, .int .i64 6, .int .i64 (-1), .int .i64 5, .int .i64 1, .int .i64 4, .int .i64 (-1), .int .i64 10, .int .i64 8, .int .i64 2] 130)).cell? ⟨g, 3, none⟩ = some (.float .f64 (F y2)) := by rw [World.cell?_alloc_past _ _ _ hgs1]; exact d3
  have hgs2 : g < (w1.alloc (.cells #[.int .i64 (-1), .int .i64 9, .int .i64 6, .int .i64 (-1), .int .i64 5, .int .i64 1, .int .i64 4, .int .i64 (-1), .int .i64 10, .int .i64 8, .int .i64 2] 130)).heap.size := by simp; omega
  clear d0 d1 d2 d3 hB1 hbx1
  rw [← hb7] at n1 ⊢
  generalize w1.alloc (.cells #[.int .i64 (-1), .int .i64 9, .int .i64 6, .int .i64 (-1), .int .i64 5, .int .i64 1, .int .i64 4, .int .i64 (-1), .int .i64 10, .int .i64 8, .int .i64 2] 130) = wA at *
  have gb7 : g ≠ b7 := by rw [hb7]; exact Nat.ne_of_lt hgs1
  clear hb7
  go_upto_region 7 with fail
  have m1 : Blk (wA.alloc (.cells #[.float .f64 (F x1), .float .f64 (F y1)] 69)) wA.heap.size #[.float .f64 (F x1), .float .f64 (F y1)] 69 := Blk.new wA _ _
  obtain ⟨b8, hb8⟩ : ∃ b, b = wA.heap.size := ⟨_, rfl⟩
  have n2 := n1.alloc (.cells #[.float .f64 (F x1), .float .f64 (F y1)] 69)
  have hbx3 := hbx2.alloc (.cells #[.float .f64 (F x1), .float .f64 (F y1)] 69)
  have hB3 : Below w.heap.size w (wA.alloc (.cells #[.float .f64 (F x1), .float .f64 (F y1)] 69)) := hB2.alloc hB2.size _
  have f2 : (wA.alloc (.cells #[.float .f64 (F x1), .float .f64 (F y1)] 69)).cell? ⟨g, 2, none⟩ = some (.float .f64 (F x2)) := by rw [World.cell?_alloc_past _ _ _ hgs2]; exact e2
  have f3 : (wA.alloc (.cells #[.float .f64 (F x1), .float .f64 (F y1)] 69)).cell? ⟨g, 3, none⟩ = some (.float .f64 (F y2)) := by rw [World.cell?_alloc_past _ _ _ hgs2]; exact e3
  have gb8 : g ≠ b8 := by rw [hb8]; exact Nat.ne_of_lt hgs2
  clear e0 e1 e2 e3 n1 hbx2 hB2 hgs2
  rw [← hb8] at m1 ⊢
  generalize (wA.alloc (.cells #[.float .f64 (F x1), .float .f64 (F y1)] 69)) = wB at *
  clear hb8
  go_upto_region 8 with fail
  have m2 : Blk (wB.alloc (.cells #[.float .f64 (F x2), .float .f64 (F y2)] 69)) wB.heap.size #[.float .f64 (F x2), .float .f64 (F y2)] 69 := Blk.new wB _ _
  obtain ⟨b9, hb9⟩ : ∃ b, b = wB.heap.size := ⟨_, rfl⟩
  have n3 := n2.alloc (.cells #[.float .f64 (F x2), .float .f64 (F y2)] 69)
  have m3 := m1.alloc (.cells #[.float .f64 (F x2), .float .f64 (F y2)] 69)
  have hbx4 := hbx3.alloc (.cells #[.float .f64 (F x2), .float .f64 (F y2)] 69)
  have hB4 : Below w.heap.size w (wB.alloc (.cells #[.float .f64 (F x2), .float .f64 (F y2)] 69)) := hB3.alloc hB3.size _
  clear f2 f3 n2 m1 hbx3 hB3
  rw [← hb9] at m2 ⊢
  generalize (wB.alloc (.cells #[.float .f64 (F x2), .float .f64 (F y2)] 69)) = wC at *
  clear hb9
  have p0 : wC.cell? ⟨w.heap.size, 0, none⟩ = some (.float .f64 (F lx)) := hbx4.cell 0
  have p1 : wC.cell? ⟨w.heap.size, 1, none⟩ = some (.float .f64 (F ly)) := hbx4.cell 1
  have p2 : wC.cell? ⟨w.heap.size, 2, none⟩ = some (.float .f64 (F hx)) := hbx4.cell 2
  have p3 : wC.cell? ⟨w.heap.size, 3, none⟩ = some (.float .f64 (F hy)) := hbx4.cell 3
  have q0 : wC.cell? ⟨b8, 0, none⟩ = some (.float .f64 (F x1)) := m3.cell 0
  have q1 : wC.cell? ⟨b8, 1, none⟩ = some (.float .f64 (F y1)) := m3.cell 1
  have hm1 := (codes_nat (midC_codes s1)).1
  have HK1 : Hid (Codes (midC s1)) := midC_codes s1
  have HK2 : Hid (Codes (midC s2)) := midC_codes s2
  go_wp2_with fail
  (with_reducible refine (hb1 _).mono ?_)
  rintro e w2 ⟨rfl, hbn⟩
  have hB5 := hB4.trans (hbn.mono hB4.size)
  have hbx5 := hbx4.below hbn hbx4.lt
  have n4 := n3.below hbn n3.lt
  have m4 := m3.below hbn m3.lt
  have k4 := m2.below hbn m2.lt
  clear hbx4 n3 m3 m2 hB4 p0 p1 p2 p3 q0 q1 hbn
  have p0 : w2.cell? ⟨w.heap.size, 0, none⟩ = some (.float .f64 (F lx)) := hbx5.cell 0
  have p1 : w2.cell? ⟨w.heap.size, 1, none⟩ = some (.float .f64 (F ly)) := hbx5.cell 1
  have p2 : w2.cell? ⟨w.heap.size, 2, none⟩ = some (.float .f64 (F hx)) := hbx5.cell 2
  have p3 : w2.cell? ⟨w.heap.size, 3, none⟩ = some (.float .f64 (F hy)) := hbx5.cell 3
  have q0 : w2.cell? ⟨b9, 0, none⟩ = some (.float .f64 (F x2)) := k4.cell 0
  have q1 : w2.cell? ⟨b9, 1, none⟩ = some (.float .f64 (F y2)) := k4.cell 1
  go_wp2_with fail
  (with_reducible refine (hb2 _).mono ?_)
  rintro e w3 ⟨rfl, hbn⟩
  have hB6 := hB5.trans (hbn.mono hB5.size)
  have hbx6 := hbx5.below hbn hbx5.lt
  have n5 := n4.below hbn n4.lt
  have m5 := m4.below hbn m4.lt
  have k5 := k4.below hbn k4.lt
  clear hbx5 n4 m4 k4 hB5 p0 p1 p2 p3 q0 q1 hbn hb1 hb2
  have z1 : (midC s1 == 0) = false := by
    have := HK1.out
    simp only [beq_eq_false_iff_ne]
    unfold Codes at this
    omega
  have z2 : (midC s2 == 0) = false := by
    have := HK2.out
    simp only [beq_eq_false_iff_ne]
    unfold Codes at this
    omega
  obtain ⟨cf, hcf⟩ : ∃ c, c = midC s1 := ⟨_, rfl⟩
  obtain ⟨cl, hcl⟩ : ∃ c, c = midC s2 := ⟨_, rfl⟩
  rw [← hcf] at z1 ⊢
  rw [← hcl] at z2 ⊢
  have HC : Hid (cf = midC s1 ∧ cl = midC s2) := ⟨hcf, hcl⟩
  rw [← hcf] at HK1
  rw [← hcl] at HK2
  clear hcf hcl hm1
  go_upto_if 50 with fail
  go_cut [1] (fun v1 wc => v1 = .slice (some ⟨g, 0, none⟩) 2 cap ∧ ¬ (s1 = s2 ∧ beforeE (-1) ⟨x2, y2, false, s2, 0⟩ ⟨x1, y1, true, s1, 0⟩) ∧ Blk wc w.heap.size #[.float .f64 (F lx), .float .f64 (F ly), .float .f64 (F hx), .float .f64 (F hy)] 71 ∧ Blk wc b7 nxA 130 ∧ Blk wc b8 #[.float .f64 (F x1), .float .f64 (F y1)] 69 ∧ Below w.heap.size w wc)
  case first =>
    by_cases hcc : cf = cl
    · have hss := midC_inj (HC.out.1.symm.trans (hcc.trans HC.out.2)) HSS.out.1 HSS.out.2
      subst hcc
      subst hss
      have p0 : w3.cell? ⟨w.heap.size, 0, none⟩ = some (.float .f64 (F lx)) := hbx6.cell 0
      have p1 : w3.cell? ⟨w.heap.size, 1, none⟩ = some (.float .f64 (F ly)) := hbx6.cell 1
      have p2 : w3.cell? ⟨w.heap.size, 2, none⟩ = some (.float .f64 (F hx)) := hbx6.cell 2
      have p3 : w3.cell? ⟨w.heap.size, 3, none⟩ = some (.float .f64 (F hy)) := hbx6.cell 3
      have q0 : w3.cell? ⟨b8, 0, none⟩ = some (.float .f64 (F x1)) := m5.cell 0
      have q1 : w3.cell? ⟨b8, 1, none⟩ = some (.float .f64 (F y1)) := m5.cell 1
      have r0 : w3.cell? ⟨b9, 0, none⟩ = some (.float .f64 (F x2)) := k5.cell 0
      have r1 : w3.cell? ⟨b9, 1, none⟩ = some (.float .f64 (F y2)) := k5.cell 1
      have hps1 := pointSide_any lx ly hx hy x1 y1 hlx hly hhx hhy h1 h2
      have hps2 := pointSide_any lx ly hx hy x2 y2 hlx hly hhx hhy h3 h4
      rw [HS.out.1] at hps1
      rw [HS.out.2] at hps2
      have HK : Hid (∀ W, Below w3.heap.size w3 W → (W.cell? ⟨w.heap.size, 0, none⟩ = some (.float .f64 (F lx)) ∧ W.cell? ⟨w.heap.size, 1, none⟩ = some (.float .f64 (F ly)) ∧ W.cell? ⟨w.heap.size, 2, none⟩ = some (.float .f64 (F hx)) ∧ W.cell? ⟨w.heap.size, 3, none⟩ = some (.float .f64 (F hy)) ∧ W.cell? ⟨b8, 0, none⟩ = some (.float .f64 (F x1)) ∧ W.cell? ⟨b8, 1, none⟩ = some (.float .f64 (F y1)) ∧ W.cell? ⟨b9, 0, none⟩ = some (.float .f64 (F x2)) ∧ W.cell? ⟨b9, 1, none⟩ = some (.float .f64 (F y2)))) :=
        fun W hb => ⟨cell_later hb p0, cell_later hb p1, cell_later hb p2, cell_later hb p3, cell_later hb q0, cell_later hb q1, cell_later hb r0, cell_later hb r1⟩
      go_wp2_with fail
      go_cut [12] (fun v12 wc => ∃ ga g1 g2, v12 = .slice (some ⟨ga, 0, none⟩) 2 2 ∧ w3.heap.size ≤ g1 ∧ w3.heap.size ≤ g2 ∧ w3.heap.size ≤ ga ∧ g1 ≠ g2 ∧ g1 ≠ ga ∧ g2 ≠ ga ∧ Blk wc g1 #[.float .f64 (F x1), .float .f64 (F y1), .bool true, .bool false, .int .u8 s1, .int .i64 0, .int .i64 0] 108 ∧ Blk wc g2 #[.float .f64 (F x2), .float .f64 (F y2), .bool false, .bool false, .int .u8 s1, .int .i64 0, .int .i64 0] 108 ∧ Blk wc ga #[.pointer (some ⟨g1, 0, none⟩), .pointer (some ⟨g2, 0, none⟩)] 106 ∧ Below w3.heap.size w3 wc)
      case first =>
        go_region_held3 (fun w' => (w'.cell? ⟨w.heap.size, 0, none⟩ = some (.float .f64 (F lx)) ∧ w'.cell? ⟨w.heap.size, 1, none⟩ = some (.float .f64 (F ly)) ∧ w'.cell? ⟨w.heap.size, 2, none⟩ = some (.float .f64 (F hx)) ∧ w'.cell? ⟨w.heap.size, 3, none⟩ = some (.float .f64 (F hy)) ∧ w'.cell? ⟨b8, 0, none⟩ = some (.float .f64 (F x1)) ∧ w'.cell? ⟨b8, 1, none⟩ = some (.float .f64 (F y1)) ∧ w'.cell? ⟨b9, 0, none⟩ = some (.float .f64 (F x2)) ∧ w'.cell? ⟨b9, 1, none⟩ = some (.float .f64 (F y2))))
          ((refine HK.out _ ?_; repeat first | assumption | exact Below.refl _ _ | refine Below.drew ?_ | refine below_drewN ?_ _ | refine below_alloc ?_ _ (Nat.le_refl _)))
          (first
            | (go_at_call 50; with_reducible refine (hps1 _).mono ?_; rintro e wA ⟨rfl, hbA⟩; have hBA : Below w3.heap.size w3 wA := below_step (by repeat first | assumption | exact Below.refl _ _ | refine Below.drew ?_ | refine below_drewN ?_ _ | refine below_alloc ?_ _ (Nat.le_refl _)) hbA)
            | (go_at_call 50; with_reducible refine (hps2 _).mono ?_; rintro e wB ⟨rfl, hbB⟩; have hBB : Below w3.heap.size w3 wB := below_step (by repeat first | assumption | exact Below.refl _ _ | refine Below.drew ?_ | refine below_drewN ?_ _ | refine below_alloc ?_ _ (Nat.le_refl _)) hbB))
        all_goals go_wp2_with fail
        all_goals go_meet
        all_goals
          have sA := hBA.size
          have sB := hBB.size
          have sC := hbB.size
          try simp at sC
          first
            | (refine ⟨wB.heap.size + 1, wA.heap.size, wB.heap.size, ?_, ?_, ?_, ?_, ?_, ?_, ?_, ?_, ?_, ?_, ?_⟩
               · with_reducible rfl
               · omega
               · omega
               · omega
               · omega
               · omega
               · omega
               all_goals
                 repeat (first
                   | with_reducible assumption
                   | with_reducible refine Blk.drew ?_
                   | (with_reducible refine blk_new' ?_; simp; done)
                   | with_reducible refine Blk.alloc ?_ _
                   | with_reducible refine Blk.below ?_ hbB (by simp)
                   | with_reducible refine Below.drew ?_
                   | with_reducible refine below_drewN ?_ _
                   | with_reducible refine below_alloc ?_ _ (Nat.le_refl _))
               done)
            | (refine ⟨wB.heap.size + 1 + 1, wB.heap.size, wB.heap.size + 1, ?_, ?_, ?_, ?_, ?_, ?_, ?_, ?_, ?_, ?_, ?_⟩
               · with_reducible rfl
               · omega
               · omega
               · omega
               · omega
               · omega
               · omega
               all_goals
                 repeat (first
                   | with_reducible assumption
                   | with_reducible refine Blk.drew ?_
                   | (with_reducible refine blk_new' ?_; simp; done)
                   | with_reducible refine Blk.alloc ?_ _
                   | with_reducible refine Blk.below ?_ hbB (by simp)
                   | with_reducible refine Below.drew ?_
                   | with_reducible refine below_drewN ?_ _
                   | with_reducible refine below_alloc ?_ _ (Nat.le_refl _))
               done)
            | (refine ⟨wB.heap.size + 1 + 1, wB.heap.size + 1, wB.heap.size, ?_, ?_, ?_, ?_, ?_, ?_, ?_, ?_, ?_, ?_, ?_⟩
               · with_reducible rfl
               · omega
               · omega
               · omega
               · omega
               · omega
               · omega
               all_goals
                 repeat (first
                   | with_reducible assumption
                   | with_reducible refine Blk.drew ?_
                   | (with_reducible refine blk_new' ?_; simp; done)
                   | with_reducible refine Blk.alloc ?_ _
                   | with_reducible refine Blk.below ?_ hbB (by simp)
                   | with_reducible refine Below.drew ?_
                   | with_reducible refine below_drewN ?_ _
                   | with_reducible refine below_alloc ?_ _ (Nat.le_refl _))
               done)
      case rest =>
        obtain ⟨ga, g1, g2, rfl, l1, l2, l3, d1, d2, d3, bg1, bg2, bga, hbc⟩ := hcut
        have hB7 := hB6.trans (hbc.mono hB6.size)
        have hbx7 := hbx6.below hbc hbx6.lt
        have n6 := n5.below hbc n5.lt
        have m6 := m5.below hbc m5.lt
        have k6 := k5.below hbc k5.lt
        have lb8 := m5.lt
        have lb9 := k5.lt
        have lb7 := n5.lt
        have lbx := hbx6.lt
        have t1 := bg1.lt
        have t2 := bg2.lt
        have t3 := bga.lt
        clear hbx6 n5 m5 k5 hbc p0 p1 p2 p3 q0 q1 r0 r1 HK hps1 hps2 hB6
        go_upto_region 17 with fail
        have HP := HNE.out
        have hok0 : EPt.ok ⟨x1, y1, true, s1, 0⟩ := ⟨h1, h2, HSS.out.1⟩
        have hok1 : EPt.ok ⟨x2, y2, false, s1, 0⟩ := ⟨h3, h4, HSS.out.1⟩
        obtain ⟨wS, hwS⟩ : ∃ wS, wS = (wc.alloc (.cells #[.slice (some ⟨g, 0, none⟩) 2 cap] 100)).alloc (.cells #[.slice (some ⟨wc.heap.size, 0, none⟩) 1 1, .slice (some ⟨ga, 0, none⟩) 2 2] 112) := ⟨_, rfl⟩
        have hse : Blk wS (wc.heap.size + 1) #[.slice (some ⟨wc.heap.size, 0, none⟩) 1 1, .slice (some ⟨ga, 0, none⟩) 2 2] 112 := by rw [hwS]; exact blk_new' (by simp)
        have bg1S := (bg1.alloc (.cells #[.slice (some ⟨g, 0, none⟩) 2 cap] 100)).alloc (.cells #[.slice (some ⟨wc.heap.size, 0, none⟩) 1 1, .slice (some ⟨ga, 0, none⟩) 2 2] 112)
        have bg2S := (bg2.alloc (.cells #[.slice (some ⟨g, 0, none⟩) 2 cap] 100)).alloc (.cells #[.slice (some ⟨wc.heap.size, 0, none⟩) 1 1, .slice (some ⟨ga, 0, none⟩) 2 2] 112)
        have bgaS := (bga.alloc (.cells #[.slice (some ⟨g, 0, none⟩) 2 cap] 100)).alloc (.cells #[.slice (some ⟨wc.heap.size, 0, none⟩) 1 1, .slice (some ⟨ga, 0, none⟩) 2 2] 112)
        have hbxS := (hbx7.alloc (.cells #[.slice (some ⟨g, 0, none⟩) 2 cap] 100)).alloc (.cells #[.slice (some ⟨wc.heap.size, 0, none⟩) 1 1, .slice (some ⟨ga, 0, none⟩) 2 2] 112)
        have nS := (n6.alloc (.cells #[.slice (some ⟨g, 0, none⟩) 2 cap] 100)).alloc (.cells #[.slice (some ⟨wc.heap.size, 0, none⟩) 1 1, .slice (some ⟨ga, 0, none⟩) 2 2] 112)
        have mS := (m6.alloc (.cells #[.slice (some ⟨g, 0, none⟩) 2 cap] 100)).alloc (.cells #[.slice (some ⟨wc.heap.size, 0, none⟩) 1 1, .slice (some ⟨ga, 0, none⟩) 2 2] 112)
        have hBS := (hB7.alloc hB7.size (.cells #[.slice (some ⟨g, 0, none⟩) 2 cap] 100)).alloc (by have := hB7.size; simp; omega) (.cells #[.slice (some ⟨wc.heap.size, 0, none⟩) 1 1, .slice (some ⟨ga, 0, none⟩) 2 2] 112)
        have hzS : wS.heap.size = wc.heap.size + 2 := by rw [hwS]; simp
        rw [← hwS] at bg1S bg2S bgaS hbxS nS mS hBS ⊢
        obtain ⟨sb, hsb⟩ : ∃ sb, sb = wc.heap.size + 1 := ⟨_, rfl⟩
        rw [← hsb] at hse ⊢
        have lsb : w3.heap.size ≤ sb ∧ sb < wS.heap.size := by omega
        have ln : g1 ≠ sb ∧ g2 ≠ sb ∧ ga ≠ sb := by omega
        have lw : w3.heap.size ≤ wS.heap.size := by omega
        clear hwS hsb hzS hbx7 n6 m6 k6 bg1 bg2 bga hB7 t1 t2 t3
        go_wp2_with fail
        (with_reducible refine (reverse_any _ _ _).mono ?_)
        rintro e wR ⟨rfl, rfl⟩
        obtain ⟨wT, hwT⟩ : ∃ wT, wT = wS.alloc (.cells #[.iface 110 (.pointer (some ⟨sb, 0, none⟩))] 129) := ⟨_, rfl⟩
        have hrb : Blk wT wS.heap.size #[.iface 110 (.pointer (some ⟨sb, 0, none⟩))] 129 := by rw [hwT]; exact Blk.new _ _ _
        have hseT := hse.alloc (.cells #[.iface 110 (.pointer (some ⟨sb, 0, none⟩))] 129)
        have bg1T := bg1S.alloc (.cells #[.iface 110 (.pointer (some ⟨sb, 0, none⟩))] 129)
        have bg2T := bg2S.alloc (.cells #[.iface 110 (.pointer (some ⟨sb, 0, none⟩))] 129)
        have bgaT := bgaS.alloc (.cells #[.iface 110 (.pointer (some ⟨sb, 0, none⟩))] 129)
        have hbxT := hbxS.alloc (.cells #[.iface 110 (.pointer (some ⟨sb, 0, none⟩))] 129)
        have nT := nS.alloc (.cells #[.iface 110 (.pointer (some ⟨sb, 0, none⟩))] 129)
        have mT := mS.alloc (.cells #[.iface 110 (.pointer (some ⟨sb, 0, none⟩))] 129)
        have hBT := hBS.alloc hBS.size (.cells #[.iface 110 (.pointer (some ⟨sb, 0, none⟩))] 129)
        have hzT : wT.heap.size = wS.heap.size + 1 := by rw [hwT]; simp
        rw [← hwT] at hseT bg1T bg2T bgaT hbxT nT mT hBT ⊢
        have lwT : w3.heap.size ≤ wT.heap.size := by omega
        have r1 := bg1S.lt
        have r2 := bg2S.lt
        have r3 := bgaS.lt
        obtain ⟨rb, hrbe⟩ : ∃ rb, rb = wS.heap.size := ⟨_, rfl⟩
        rw [← hrbe] at hrb ⊢
        have lrb : w3.heap.size ≤ rb := by omega
        have hsort := two_cw (mv := .slice (some ⟨wc.heap.size, 0, none⟩) 1 1) rb hrb (by omega) (by omega) (by omega) (by omega) hok0 hok1 HP d1 d2 d3 ln.1 ln.2.1 ln.2.2 bg1T bg2T bgaT hseT
        clear HP hok0 hok1 hse hrb hseT hwT hrbe hzT bg1S bg2S bgaS hbxS nS mS hBS r1 r2 r3
        go_wp2_with fail
        (with_reducible refine hsort.mono ?_)
        rintro e w5 ⟨rfl, hk5, gf, c1, c2⟩
        clear hsort
        have hB9 : Below w.heap.size w w5 := (hBT.trans (hk5.below (B := w.heap.size) hBT.size (fun b hb => by rcases hb with (rfl | rfl | ⟨e, h1, rfl⟩) | rfl; omega; omega; unfold eb2; split <;> omega; omega)))
        have nb : ∀ b, b < w3.heap.size → w5.heap[b]? = wT.heap[b]? := fun b hb => hk5.block b ((by rintro ((rfl | rfl | ⟨e, h1, rfl⟩) | rfl); omega; omega; unfold eb2 at hb; split at hb <;> omega; omega)) (by omega)
        have hbx8 : Blk w5 w.heap.size #[.float .f64 (F lx), .float .f64 (F ly), .float .f64 (F hx), .float .f64 (F hy)] 71 := (nb _ (by omega)).trans hbxT
        have n7 : Blk w5 b7 nxA 130 := (nb _ lb7).trans nT
        have m7 : Blk w5 b8 #[.float .f64 (F x1), .float .f64 (F y1)] 69 := (nb _ lb8).trans mT
        clear hbxT nT mT hBT hk5 bg1T bg2T bgaT
        have q0 : w5.cell? ⟨b8, 0, none⟩ = some (.float .f64 (F x1)) := m7.cell 0
        have q1 : w5.cell? ⟨b8, 1, none⟩ = some (.float .f64 (F y1)) := m7.cell 1
        obtain ⟨bf, hbf⟩ : ∃ bf : Bool, bf = !(if EPt.pos ⟨x1, y1, true, s1, 0⟩ < EPt.pos ⟨x2, y2, false, s1, 0⟩ then false else true) := ⟨_, rfl⟩
        replace c2 : w5.cell? ⟨gf, 2, none⟩ = some (.bool (!bf)) := by rw [hbf, Bool.not_not]; exact c2
        have HBF : Hid (bf = !(if EPt.pos ⟨x1, y1, true, s1, 0⟩ < EPt.pos ⟨x2, y2, false, s1, 0⟩ then false else true)) := hbf
        clear hbf
        cases bf with
        | true =>
          replace c2 : w5.cell? ⟨gf, 2, none⟩ = some (.bool false) := c2
          have d0 : w5.cell? ⟨g, 2, none⟩ = some (.float .f64 (F x2)) := (hB9.cell (by exact hgs)).trans HCELL.out.1
          have d1 : w5.cell? ⟨g, 3, none⟩ = some (.float .f64 (F y2)) := (hB9.cell (by exact hgs)).trans HCELL.out.2
          have hpt : ¬ (x1 = x2 ∧ y1 = y2) := fun h => HNE.out (by rw [h.1, h.2]; unfold EPt.pos; rfl)
          have HARO : Hid (aroundL (-1) lx ly hx hy ⟨x1, y1, true, s1, 0⟩ ⟨x2, y2, false, s1, 0⟩ = []) := by
            have h2 := HBF.out
            show aroundL _ _ _ _ _ _ _ = []
            unfold aroundL
            rw [if_pos]
            refine ⟨rfl, ?_⟩
            unfold beforeE
            simp at h2 ⊢
            omega
          clear HS HNE HSS HK1 HK2 HCELL HBF hbx8 n7 m7
          go_wp2_with fail
          go_quiet (fail)
          go_wp2_with (at_builtin; refine wpList_push rfl _ _ 74 rfl 69 i1 _ 2 16 Try.underlying74 hj hy0 hy1 hy2 rfl (by decide) (by decide) w (w5.drewN nq) B _ 2 XI rfl (own_below HIN.out (below_drewN hB9 nq) (Nat.le_refl _)) B ((below_drewN hB9 nq).mono hB) (Nat.le_refl _) (Nat.le_trans hB (below_drewN hB9 nq).size) (by omega) [.float .f64 (F x1), .float .f64 (F y1)] _ _ (by simp) 1 rfl rfl (by simp [Value.oneCell']) ?_)
          all_goals first
            | (rename_i hbad; exact absurd (by simpa using hbad) hpt)
            | (intro g' cap'' w6 hown6 hbel6 hsz6 hgr hat hg6
               have HO6 : Hid (w6.ownsRow B 69 2 (.slice (some ⟨g', 0, none⟩) 3 cap'') 3 (XI ++ [.float .f64 (F x1), .float .f64 (F y1)])) := hown6
               clear hown6
               go_wp2_with fail
               go_ret
               refine ⟨some ⟨g', 0, none⟩, cap'', ⟨_, rfl, ?_, ?_⟩, hbel6⟩
               · rw [HARO.out]; rfl
               · rw [HARO.out]
                 exact own_direct h1 h2 h3 h4 HXI.out HO6.out)
        | false =>
          replace c2 : w5.cell? ⟨gf, 2, none⟩ = some (.bool true) := c2
          go_wp2_with fail
          go_meet
          refine ⟨rfl, fun h => ?_, hbx8, n7, m7, hB9⟩
          have := HBF.out
          have h2 := h.2
          unfold beforeE at h2
          simp at this h2
          omega
    · have hss : ¬ s1 = s2 := fun e => hcc (by rw [HC.out.1, HC.out.2, e])
      have hz : (cl == cf) = false := by simpa using fun e => hcc e.symm
      have HSN : Hid (¬ s1 = s2) := hss
      clear hcc hss
      clear HIN HS HNE HSS HK1 HK2 k5
      go_wp2_with fail
      go_meet
      exact ⟨rfl, fun h => HSN.out h.1, hbx6, n5, m5, hB6⟩
  case rest =>
    obtain ⟨rfl, hnd, hbx8, n7, m7, hB9⟩ := hcut
    have hcc := HK2.out
    have hck := codes_nat hcc
    have hnx := nxs_at (-1) cl (by omega) hcc
    rw [nxs_cw] at hnx
    have hx1 : wc.cell? ⟨b7, cl.toNat, none⟩ = some (.int .i64 (nextI (-1) cl)) := (n7.cell cl.toNat).trans hnx
    have hck1 := hck.1
    have hck2 := hck.2.1
    have HFULL : Hid (aroundL (-1) lx ly hx hy ⟨x1, y1, true, s1, 0⟩ ⟨x2, y2, false, s2, 0⟩ = (walkB (-1) cf 8 (nextI (-1) cl)).map (pointI lx ly hx hy)) := by
      show aroundL _ _ _ _ _ _ _ = _
      unfold aroundL
      rw [if_neg hnd, HC.out.1, HC.out.2]
    have HW : Hid (WalkAt (-1) cf (nextI (-1) cl) [] (nextI (-1) cl)) := by
      obtain ⟨k, hk, hl⟩ := walk_more (-1) cf (by omega) HK1.out (nextI (-1) cl) (nextI_codes (-1) cl (by omega) hcc)
      exact ⟨rfl, by omega⟩
    have HN : Hid (Codes (nextI (-1) cl)) := nextI_codes (-1) cl (by omega) hcc
    have hown0 : wc.ownsRow B 69 2 (.slice (some ⟨g, 0, none⟩) 2 cap) 2 ([(2 * x1, 2 * y1), (2 * x2, 2 * y2)].flatMap hE) := by
      have := own_below HIN.out hB9 (Nat.le_refl _)
      rw [HXI.out] at this
      simp only [List.flatMap_cons, List.flatMap_nil, hE_dbl h1 h2, hE_dbl h3 h4] at this ⊢
      exact this
    have hB10 := hB9.mono hB
    have hpf := fun c hc W => pointFor_any lx ly hx hy c hlx hly hhx hhy hsx hsy hc W
    clear hnd hcc hck hnx HIN HS HNE HSS HK2 HC HCELL hB9
    obtain ⟨c0, hc0⟩ : ∃ c, c = nextI (-1) cl := ⟨_, rfl⟩
    rw [← hc0] at HFULL HW HN hx1
    clear hc0
    go_wp2_with fail
    go_loopw [1, 11] (fun v1 v11 wr => ∃ (done : List Int) (c : Int) (ar : Option Addr) (cr : Nat), v11 = .int .i64 c ∧ v1 = .slice ar (2 + done.length) cr ∧ Hid (Codes c) ∧ Hid (WalkAt (-1) cf c0 done c) ∧ done.length < 8 ∧
        wr.ownsRow B 69 2 (.slice ar (2 + done.length) cr) (2 + done.length) (((2 * x1, 2 * y1) :: (2 * x2, 2 * y2) :: done.map (pointI lx ly hx hy)).flatMap hE) ∧
        Blk wr w.heap.size #[.float .f64 (F lx), .float .f64 (F ly), .float .f64 (F hx), .float .f64 (F hy)] 71 ∧ Blk wr b7 nxA 130 ∧ Blk wr b8 #[.float .f64 (F x1), .float .f64 (F y1)] 69 ∧ Below B w wr ∧ (∀ k, (Value.slice ar (2 + done.length) cr).ownBlock = some k → k ≠ w.heap.size ∧ k ≠ b7 ∧ k ≠ b8))
      (fun v1 _ _ => 100 - (match v1 with | .slice _ n _ => n | _ => 0))
    case atStart => exact ⟨[], c0, some ⟨g, 0, none⟩, cap, rfl, rfl, HN, HW, by simp, hown0, hbx8, n7, m7, hB10, fun k hk => by cases hk; exact ⟨Nat.ne_of_lt hgs, gb7, gb8⟩⟩
    case round =>
      clear hbx8 n7 m7 hB10 hown0 hx1 HN HW
      obtain ⟨done, c, ar, cr, rfl, rfl, HCC, HWA, hdl, hown, hbx, n8, m8, hbel, hne⟩ := hrel
      obtain ⟨XS, hXS⟩ : ∃ XS : List Value, XS = (((2 * x1, 2 * y1) :: (2 * x2, 2 * y2) :: done.map (pointI lx ly hx hy)).flatMap hE) := ⟨_, rfl⟩
      rw [← hXS] at hown
      have HXS : Hid (XS = (((2 * x1, 2 * y1) :: (2 * x2, 2 * y2) :: done.map (pointI lx ly hx hy)).flatMap hE)) := hXS
      clear hXS
      have e0 : wr.cell? ⟨w.heap.size, 0, none⟩ = some (.float .f64 (F lx)) := hbx.cell 0
      have e1 : wr.cell? ⟨w.heap.size, 1, none⟩ = some (.float .f64 (F ly)) := hbx.cell 1
      have e2 : wr.cell? ⟨w.heap.size, 2, none⟩ = some (.float .f64 (F hx)) := hbx.cell 2
      have e3 : wr.cell? ⟨w.heap.size, 3, none⟩ = some (.float .f64 (F hy)) := hbx.cell 3
      have f0 : wr.cell? ⟨b8, 0, none⟩ = some (.float .f64 (F x1)) := m8.cell 0
      have f1 : wr.cell? ⟨b8, 1, none⟩ = some (.float .f64 (F y1)) := m8.cell 1
      have lbx := hbx.lt
      have l7 := n8.lt
      have l8 := m8.lt
      by_cases hct : c = cf
      · subst hct
        go_wp2_with (at_builtin; refine wpList_push rfl _ _ 74 rfl 69 i1 _ 2 16 Try.underlying74 hj hy0 hy1 hy2 rfl (by decide) (by decide) w wr B (.slice ar (2 + done.length) cr) (2 + done.length) XS rfl hown B hbel (Nat.le_refl _) (Nat.le_trans hB hbel.size) (by omega) [.float .f64 (F x1), .float .f64 (F y1)] _ wr.heap.size rfl 1 rfl rfl (by simp [Value.oneCell']) ?_)
        intro g' cap'' w6 hown6 hbel6 hsz6 hgr hat hg6
        have HO6 : Hid (w6.ownsRow B 69 2 (.slice (some ⟨g', 0, none⟩) (2 + done.length + 1) cap'') (2 + done.length + 1) (XS ++ [.float .f64 (F x1), .float .f64 (F y1)])) := hown6
        clear hown6 hown
        go_wp2_with fail
        go_ret
        have hfin := HWA.out.stop
        refine ⟨some ⟨g', 0, none⟩, cap'', ⟨_, rfl, ?_, ?_⟩, hbel6⟩
        · rw [HFULL.out, hfin]
          simp only [List.length_append, List.length_cons, List.length_nil, List.length_map]
          rw [show done.length + 1 + 1 + (0 + 1) = 2 + done.length + 1 by omega]
          rfl
        · rw [HFULL.out, hfin]
          exact own_last h1 h2 (HXS.out ▸ HO6.out)
      · have hz : (cf == c) = false := by simpa using fun e => hct e.symm
        have hpc := hpf c HCC.out
        obtain ⟨px, py, hp⟩ : ∃ px py, pointI lx ly hx hy c = (px, py) := ⟨_, _, rfl⟩
        rw [hp] at hpc
        dsimp only at hpc
        clear hct
        go_wp2_with fail
        (with_reducible refine (hpc _).mono ?_)
        rintro e w5 ⟨rfl, hb5⟩
        have hown5 := own_below hown hb5 (Nat.le_refl _)
        have hbel5 := hbel.trans (hb5.mono (Nat.le_trans hB hbel.size))
        have hbx5 := hbx.below hb5 hbx.lt
        have n5 := n8.below hb5 n8.lt
        have m5 := m8.below hb5 m8.lt
        have s5 := hb5.size
        clear hown hbel hbx n8 m8 hb5 hpc e0 e1 e2 e3 f0 f1
        have HP2 : Hid (pointI lx ly hx hy c = (px, py)) := hp
        clear hp
        go_wp2_with (at_builtin; refine wpList_push rfl _ _ 74 rfl 69 i1 _ 2 16 Try.underlying74 hj hy0 hy1 hy2 rfl (by decide) (by decide) w w5 B (.slice ar (2 + done.length) cr) (2 + done.length) XS rfl hown5 B hbel5 (Nat.le_refl _) (Nat.le_trans hB hbel5.size) (by omega) [.float .f64 (H px), .float .f64 (H py)] _ w5.heap.size rfl 1 rfl rfl (by simp [Value.oneCell']) ?_)
        intro g' cap'' w6 hown6 hbel6 hsz6 hgr hat hg6
        have HO7 : Hid (w6.ownsRow B 69 2 (.slice (some ⟨g', 0, none⟩) (2 + (done ++ [c]).length) cap'') (2 + (done ++ [c]).length) (((2 * x1, 2 * y1) :: (2 * x2, 2 * y2) :: (done ++ [c]).map (pointI lx ly hx hy)).flatMap hE)) := own_snoc HP2.out (HXS.out ▸ hown6)
        clear hown6 hown5
        have hck := codes_nat HCC.out
        have hck1 := hck.1
        have hck2 := hck.2.1
        have hnb : ∀ k, k < w5.heap.size → k = w.heap.size ∨ k = b7 ∨ k = b8 → some k ≠ Value.ownBlock (.slice ar (2 + done.length) cr) := fun k hk hk2 e => by
          have := hne k e.symm
          omega
        have hne6 : ∀ k, (Value.slice (some ⟨g', 0, none⟩) (2 + (done ++ [c]).length) cap'').ownBlock = some k → k ≠ w.heap.size ∧ k ≠ b7 ∧ k ≠ b8 := fun k hk => by
          obtain rfl : g' = k := Option.some.inj hk
          rcases hat with h | h
          · exact hne _ h
          · have t1 := hbx5.lt
            have t2 := n5.lt
            have t3 := m5.lt
            omega
        have hbx6 : Blk w6 w.heap.size #[.float .f64 (F lx), .float .f64 (F ly), .float .f64 (F hx), .float .f64 (F hy)] 71 := (hbx5.alloc _).grown hgr (hnb _ hbx5.lt (.inl rfl))
        have n6 : Blk w6 b7 nxA 130 := (n5.alloc _).grown hgr (hnb _ n5.lt (.inr (.inl rfl)))
        have m6 : Blk w6 b8 #[.float .f64 (F x1), .float .f64 (F y1)] 69 := (m5.alloc _).grown hgr (hnb _ m5.lt (.inr (.inr rfl)))
        have hnx := nxs_at (-1) c (by omega) HCC.out
        rw [nxs_cw] at hnx
        have hx6 : w6.cell? ⟨b7, c.toNat, none⟩ = some (.int .i64 (nextI (-1) c)) := (n6.cell c.toNat).trans hnx
        clear hnx
        go_wp2_with fail
        go_roundw
        case rel =>
          have hnx := HWA.out.next (fun e => by rw [e] at hz; simp at hz)
          refine ⟨done ++ [c], nextI (-1) c, some ⟨g', 0, none⟩, cap'', rfl, ?_, nextI_codes (-1) c (.inr rfl) HCC.out, hnx, hnx.short, ?_, hbx6, n6, m6, hbel6, hne6⟩
          · rw [List.length_append, List.length_singleton, Nat.add_assoc]
          · exact HO7.out
        case measure =>
          show 100 - (2 + done.length + 1) < 100 - (2 + done.length)
          omega
end Go.Proofs.Ytafanlbfbfbeoaa
