/- The walk of FnExactBound. -/
import Derived.Test.YtlakfamodfgmcaaWayB
import Derived.Test.YtlakfamodfgmcaaIb
import Derived.Lib.MinMax
import Derived.Test.YtlakfamodfgmcaaGr
namespace Go.Proofs.Ytlakfamodfgmcaa
open Go.RowKit

set_option maxRecDepth 100000 in
set_option maxHeartbeats 2000000 in
theorem fnExactBound_walk (a0 a1 a2 a3 a4 a5 a6 a7 : Int) (w : World) (h0 : -128 ≤ a0) (h0' : a0 ≤ 127) (h1 : -128 ≤ a1) (h1' : a1 ≤ 127) (h2 : -128 ≤ a2) (h2' : a2 ≤ 127) (h3 : -128 ≤ a3) (h3' : a3 ≤ 127)
    (h4 : -128 ≤ a4) (h4' : a4 ≤ 127) (h5 : -128 ≤ a5) (h5' : a5 ≤ 127) (h6 : -128 ≤ a6) (h6' : a6 ≤ 127) (h7 : -128 ≤ a7) (h7' : a7 ≤ 127) :
    Calls Try.prog 4 #[.int .i8 a0, .int .i8 a1, .int .i8 a2, .int .i8 a3, .int .i8 a4, .int .i8 a5, .int .i8 a6, .int .i8 a7] w fun e w' => e = .returned (.bool true) ∧ Below w.heap.size w w' := by
  go_enter Try.func4, Try.ntmps4
  go_wp2_with fail
  refine (box_any a0 a1 a2 a3 h0 h0' h1 h1' h2 h2' h3 h3' _).mono ?_
  rintro e w1 ⟨lx, ly, hx, hy, rfl, hbox, hb1⟩
  have hn1 := hbox.near h0 h0' h1 h1' h2 h2' h3 h3'
  clear hbox h0 h0' h1 h1' h2 h2' h3 h3'
  go_wp2_with fail
  refine (box_any a4 a5 a6 a7 h4 h4' h5 h5' h6 h6' h7 h7' _).mono ?_
  rintro e w2 ⟨kx, ky, mx, my, rfl, hbox, hb2⟩
  have hn2 := hbox.near h4 h4' h5 h5' h6 h6' h7 h7'
  have hB2 := hb1.trans (hb2.mono hb1.size)
  clear hbox h4 h4' h5 h5' h6 h6' h7 h7' hb1 hb2
  by_cases hx1 : min hx mx < max lx kx
  · go_wp2
    go_ret
    exact ⟨rfl, (((hB2.alloc hB2.size _).alloc (by simp; have := hB2.size; omega) _).alloc (by simp; have := hB2.size; omega) _).alloc (by simp; have := hB2.size; omega) _⟩
  · by_cases hy1 : min hy my < max ly ky
    · go_wp2
      go_ret
      exact ⟨rfl, (((hB2.alloc hB2.size _).alloc (by simp; have := hB2.size; omega) _).alloc (by simp; have := hB2.size; omega) _).alloc (by simp; have := hB2.size; omega) _⟩
    · go_wp2_with fail
      have hb0 := (((Blk.new w2 #[.int .i64 lx, .int .i64 ly, .int .i64 hx, .int .i64 hy] 27).alloc (.cells #[.int .i64 kx, .int .i64 ky, .int .i64 mx, .int .i64 my] 27)).alloc (.cells #[.int .i64 (max lx kx), .int .i64 (max ly ky)] 25)).alloc (.cells #[.int .i64 (min hx mx), .int .i64 (min hy my)] 25)
      have hb1 := ((Blk.new (w2.alloc (.cells #[.int .i64 lx, .int .i64 ly, .int .i64 hx, .int .i64 hy] 27)) #[.int .i64 kx, .int .i64 ky, .int .i64 mx, .int .i64 my] 27).alloc (.cells #[.int .i64 (max lx kx), .int .i64 (max ly ky)] 25)).alloc (.cells #[.int .i64 (min hx mx), .int .i64 (min hy my)] 25)
      have hb2 := (Blk.new ((w2.alloc (.cells #[.int .i64 lx, .int .i64 ly, .int .i64 hx, .int .i64 hy] 27)).alloc (.cells #[.int .i64 kx, .int .i64 ky, .int .i64 mx, .int .i64 my] 27)) #[.int .i64 (max lx kx), .int .i64 (max ly ky)] 25).alloc (.cells #[.int .i64 (min hx mx), .int .i64 (min hy my)] 25)
      have hb3 := Blk.new (((w2.alloc (.cells #[.int .i64 lx, .int .i64 ly, .int .i64 hx, .int .i64 hy] 27)).alloc (.cells #[.int .i64 kx, .int .i64 ky, .int .i64 mx, .int .i64 my] 27)).alloc (.cells #[.int .i64 (max lx kx), .int .i64 (max ly ky)] 25)) #[.int .i64 (min hx mx), .int .i64 (min hy my)] 25
      simp only [World.size_alloc] at hb0 hb1 hb2 hb3
      have hB3 : Below w.heap.size w ((((w2.alloc (.cells #[.int .i64 lx, .int .i64 ly, .int .i64 hx, .int .i64 hy] 27)).alloc (.cells #[.int .i64 kx, .int .i64 ky, .int .i64 mx, .int .i64 my] 27)).alloc (.cells #[.int .i64 (max lx kx), .int .i64 (max ly ky)] 25)).alloc (.cells #[.int .i64 (min hx mx), .int .i64 (min hy my)] 25)) :=
        (((hB2.alloc hB2.size _).alloc (by simp; have := hB2.size; omega) _).alloc (by simp; have := hB2.size; omega) _).alloc (by simp; have := hB2.size; omega) _
      generalize (((w2.alloc (.cells #[.int .i64 lx, .int .i64 ly, .int .i64 hx, .int .i64 hy] 27)).alloc (.cells #[.int .i64 kx, .int .i64 ky, .int .i64 mx, .int .i64 my] 27)).alloc (.cells #[.int .i64 (max lx kx), .int .i64 (max ly ky)] 25)).alloc (.cells #[.int .i64 (min hx mx), .int .i64 (min hy my)] 25) = wr at *
      have s1 : Sm lx := by unfold Sm; omega
      have s2 : Sm ly := by unfold Sm; omega
      have s3 : Sm hx := by unfold Sm; omega
      have s4 : Sm hy := by unfold Sm; omega
      have s5 : Sm kx := by unfold Sm; omega
      have s6 : Sm ky := by unfold Sm; omega
      have s7 : Sm mx := by unfold Sm; omega
      have s8 : Sm my := by unfold Sm; omega
      have t1 : Sm (max lx kx) := by unfold Sm; omega
      have t2 : Sm (max ly ky) := by unfold Sm; omega
      have t3 : Sm (min hx mx) := by unfold Sm; omega
      have t4 : Sm (min hy my) := by unfold Sm; omega
      clear hx1 hy1 hB2
      refine wp_region_grow 10 (spD [SP.eq (.agg #[.int .i64 lx, .int .i64 ly, .int .i64 hx, .int .i64 hy]), SP.eq (.agg #[.float .f64 (F lx), .float .f64 (F ly), .float .f64 (F hx), .float .f64 (F hy)]),
        SP.eq (.agg #[.int .i64 kx, .int .i64 ky, .int .i64 mx, .int .i64 my]), SP.eq (.agg #[.float .f64 (F kx), .float .f64 (F ky), .float .f64 (F mx), .float .f64 (F my)]),
        SP.eq (.agg #[.float .f64 (F (max lx kx)), .float .f64 (F (max ly ky)), .float .f64 (F (min hx mx)), .float .f64 (F (min hy my))]),
        SP.eq (.agg #[.int .i64 (max lx kx), .int .i64 (max ly ky)]), SP.eq (.agg #[.int .i64 (min hx mx), .int .i64 (min hy my)]), SP.eq (.agg #[.int .i64 (max lx kx), .int .i64 (max ly ky), .int .i64 (min hx mx), .int .i64 (min hy my)]),
        SP.eq (.agg #[.float .f64 (F (max lx kx)), .float .f64 (F (max ly ky)), .float .f64 (F (min hx mx)), .float .f64 (F (min hy my))]), SP.eq (.bool true)])
        (by kernel_rfl) (by kernel_rfl) (spD_st _) ?hop ?hend
      case hop =>
        simp only [List.take_succ_cons, List.take_zero, OpsOk, List.map_cons, List.map_nil, and_true]
        refine ⟨?_, ?_, ?_, ?_, ?_, ?_, ?_, ?_, ?_, ?_⟩
        · intro vs W hb hd R hR
          have c := hb0.below hb hb0.lt
          have c0 := c.cell 0
          have c1 := c.cell 1
          have c2 := c.cell 2
          have c3 := c.cell 3
          go_simp
          exact hR _ _ (Below.refl _ _) rfl
        · intro vs W hb hd
          have g0 : vs 0 = _ := hd.at 0 rfl
          refine opOk_call rfl Try.func19 (by kernel_rfl) (by kernel_rfl) (by simp only [List.map_toArray, List.map_cons, List.map_nil, rho_tmp, lookD_cons, lookD_nil, Option.some.injEq, Nat.reduceEqDiff, if_true, if_false, Nat.reduceAdd, g0]) ((of_any lx ly hx hy _).mono ?_)
          rintro e wA ⟨rfl, hbA⟩
          exact ⟨_, rfl, hbA, rfl⟩
        · intro vs W hb hd R hR
          have c := hb1.below hb hb1.lt
          have c0 := c.cell 0
          have c1 := c.cell 1
          have c2 := c.cell 2
          have c3 := c.cell 3
          go_simp
          exact hR _ _ (Below.refl _ _) rfl
        · intro vs W hb hd
          have g0 : vs 2 = _ := hd.at 2 rfl
          refine opOk_call rfl Try.func19 (by kernel_rfl) (by kernel_rfl) (by simp only [List.map_toArray, List.map_cons, List.map_nil, rho_tmp, lookD_cons, lookD_nil, Option.some.injEq, Nat.reduceEqDiff, if_true, if_false, Nat.reduceAdd, g0]) ((of_any kx ky mx my _).mono ?_)
          rintro e wA ⟨rfl, hbA⟩
          exact ⟨_, rfl, hbA, rfl⟩
        · intro vs W hb hd
          have g0 : vs 1 = _ := hd.at 1 rfl
          have g1 : vs 3 = _ := hd.at 3 rfl
          refine opOk_call rfl Try.func21 (by kernel_rfl) (by kernel_rfl) (by simp only [List.map_toArray, List.map_cons, List.map_nil, rho_tmp, lookD_cons, lookD_nil, Option.some.injEq, Nat.reduceEqDiff, if_true, if_false, Nat.reduceAdd, g0, g1]) ((implBound_any lx ly hx hy kx ky mx my s1 s2 s3 s4 s5 s6 s7 s8 (by omega) (by omega) (by omega) (by omega) _).mono ?_)
          rintro e wA ⟨rfl, hbA⟩
          exact ⟨_, rfl, hbA, rfl⟩
        · intro vs W hb hd R hR
          have c := hb2.below hb hb2.lt
          have c0 := c.cell 0
          have c1 := c.cell 1
          go_simp
          exact hR _ _ (Below.refl _ _) rfl
        · intro vs W hb hd R hR
          have c := hb3.below hb hb3.lt
          have c0 := c.cell 0
          have c1 := c.cell 1
          go_simp
          exact hR _ _ (Below.refl _ _) rfl
        · intro vs W hb hd R hR
          have g0 : vs 5 = _ := hd.at 5 rfl
          have g1 : vs 6 = _ := hd.at 6 rfl
          go_simp
          exact hR _ _ (Below.refl _ _) rfl
        · intro vs W hb hd
          have g0 : vs 7 = _ := hd.at 7 rfl
          refine opOk_call rfl Try.func19 (by kernel_rfl) (by kernel_rfl) (by simp only [List.map_toArray, List.map_cons, List.map_nil, rho_tmp, lookD_cons, lookD_nil, Option.some.injEq, Nat.reduceEqDiff, if_true, if_false, Nat.reduceAdd, g0]) ((of_any (max lx kx) (max ly ky) (min hx mx) (min hy my) _).mono ?_)
          rintro e wA ⟨rfl, hbA⟩
          exact ⟨_, rfl, hbA, rfl⟩
        · intro vs W hb hd R hR
          have g0 : vs 4 = _ := hd.at 4 rfl
          have g1 : vs 8 = _ := hd.at 8 rfl
          go_simp
          exact hR _ _ (Below.refl _ _) rfl
      case hend =>
        intro vs W hb hd
        have g9 : vs 9 = _ := hd.at 9 rfl
        simp only [List.take_succ_cons, List.take_zero, List.drop_succ_cons, List.drop_zero, List.map_cons, List.map_nil, putAll, Nat.reduceAdd]
        rw [g9]
        clear g9
        go_wp2
        go_ret
        exact ⟨rfl, hB3.trans (hb.mono hB3.size)⟩
end Go.Proofs.Ytlakfamodfgmcaa
