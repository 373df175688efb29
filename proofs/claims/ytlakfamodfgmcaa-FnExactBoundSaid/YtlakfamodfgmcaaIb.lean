/- The box that two boxes have in common, as the thin package gives it. -/
import Derived.Test.YtlakfamodfgmcaaMx
import Derived.Test.YtlakfamodfgmcaaGr
import Derived.Deep.DeepCutAuto
namespace Go.Proofs.Ytlakfamodfgmcaa
open Go.RowKit

theorem below_step {wr W wA : World} (h : Below wr.heap.size wr W) (hA : Below W.heap.size W wA) : Below wr.heap.size wr wA := h.trans (hA.mono h.size)

set_option maxRecDepth 100000 in
set_option maxHeartbeats 2000000 in
theorem implBound_any (lx ly hx hy kx ky mx my : Int) (h1 : Sm lx) (h2 : Sm ly) (h3 : Sm hx) (h4 : Sm hy) (h5 : Sm kx) (h6 : Sm ky) (h7 : Sm mx) (h8 : Sm my) (hle : lx ≤ hx) (hle' : ly ≤ hy) (hke : kx ≤ mx) (hke' : ky ≤ my) (w : World) :
    Calls Try.prog 21 #[.agg #[.float .f64 (F lx), .float .f64 (F ly), .float .f64 (F hx), .float .f64 (F hy)], .agg #[.float .f64 (F kx), .float .f64 (F ky), .float .f64 (F mx), .float .f64 (F my)]] w
      fun e w' => e = .returned (.agg #[.float .f64 (F (max lx kx)), .float .f64 (F (max ly ky)), .float .f64 (F (min hx mx)), .float .f64 (F (min hy my))]) ∧ Below w.heap.size w w' := by
  go_enter Try.func21, Try.ntmps21
  go_wp2_with fail
  have b2 := ((Blk.new w #[.float .f64 (F lx), .float .f64 (F ly), .float .f64 (F hx), .float .f64 (F hy)] 40).alloc (.cells #[.float .f64 (F kx), .float .f64 (F ky), .float .f64 (F mx), .float .f64 (F my)] 40)).alloc (.cells #[.float .f64 0, .float .f64 0, .float .f64 0, .float .f64 0] 40)
  have b3 := (Blk.new (w.alloc (.cells #[.float .f64 (F lx), .float .f64 (F ly), .float .f64 (F hx), .float .f64 (F hy)] 40)) #[.float .f64 (F kx), .float .f64 (F ky), .float .f64 (F mx), .float .f64 (F my)] 40).alloc (.cells #[.float .f64 0, .float .f64 0, .float .f64 0, .float .f64 0] 40)
  have b4 := Blk.new ((w.alloc (.cells #[.float .f64 (F lx), .float .f64 (F ly), .float .f64 (F hx), .float .f64 (F hy)] 40)).alloc (.cells #[.float .f64 (F kx), .float .f64 (F ky), .float .f64 (F mx), .float .f64 (F my)] 40)) #[.float .f64 0, .float .f64 0, .float .f64 0, .float .f64 0] 40
  simp only [World.size_alloc] at b2 b3 b4
  have hB0 := ((((Below.refl w.heap.size w).alloc (Nat.le_refl _) (.cells #[.float .f64 (F lx), .float .f64 (F ly), .float .f64 (F hx), .float .f64 (F hy)] 40)).alloc (by simp) (.cells #[.float .f64 (F kx), .float .f64 (F ky), .float .f64 (F mx), .float .f64 (F my)] 40)).alloc (by simp; omega) (.cells #[.float .f64 0, .float .f64 0, .float .f64 0, .float .f64 0] 40))
  generalize ((w.alloc (.cells #[.float .f64 (F lx), .float .f64 (F ly), .float .f64 (F hx), .float .f64 (F hy)] 40)).alloc (.cells #[.float .f64 (F kx), .float .f64 (F ky), .float .f64 (F mx), .float .f64 (F my)] 40)).alloc (.cells #[.float .f64 0, .float .f64 0, .float .f64 0, .float .f64 0] 40) = wr at *
  go_cut [5] (fun s5 wc => ∃ g : Nat, s5 = .pointer (some ⟨g, 0, none⟩) ∧ Blk wc g #[.float .f64 (F (max lx kx)), .float .f64 (F (max ly ky)), .float .f64 (F (min hx mx)), .float .f64 (F (min hy my))] 73 ∧ Below wr.heap.size wr wc)
  case first =>
    have c0 : wr.cell? ⟨w.heap.size, 0, none⟩ = some (.float .f64 (F lx)) := b2.cell 0
    have c1 : wr.cell? ⟨w.heap.size, 1, none⟩ = some (.float .f64 (F ly)) := b2.cell 1
    have c2 : wr.cell? ⟨w.heap.size, 2, none⟩ = some (.float .f64 (F hx)) := b2.cell 2
    have c3 : wr.cell? ⟨w.heap.size, 3, none⟩ = some (.float .f64 (F hy)) := b2.cell 3
    have d0 : wr.cell? ⟨w.heap.size + 1, 0, none⟩ = some (.float .f64 (F kx)) := b3.cell 0
    have d1 : wr.cell? ⟨w.heap.size + 1, 1, none⟩ = some (.float .f64 (F ky)) := b3.cell 1
    have d2 : wr.cell? ⟨w.heap.size + 1, 2, none⟩ = some (.float .f64 (F mx)) := b3.cell 2
    have d3 : wr.cell? ⟨w.heap.size + 1, 3, none⟩ = some (.float .f64 (F my)) := b3.cell 3
    have HS : Hid (∀ W, Below wr.heap.size wr W → (W.cell? ⟨w.heap.size, 0, none⟩ = some (.float .f64 (F lx)) ∧ W.cell? ⟨w.heap.size, 1, none⟩ = some (.float .f64 (F ly)) ∧ W.cell? ⟨w.heap.size, 2, none⟩ = some (.float .f64 (F hx)) ∧ W.cell? ⟨w.heap.size, 3, none⟩ = some (.float .f64 (F hy)) ∧
        W.cell? ⟨w.heap.size + 1, 0, none⟩ = some (.float .f64 (F kx)) ∧ W.cell? ⟨w.heap.size + 1, 1, none⟩ = some (.float .f64 (F ky)) ∧ W.cell? ⟨w.heap.size + 1, 2, none⟩ = some (.float .f64 (F mx)) ∧ W.cell? ⟨w.heap.size + 1, 3, none⟩ = some (.float .f64 (F my)))) :=
      fun W hb => ⟨cell_later hb c0, cell_later hb c1, cell_later hb c2, cell_later hb c3, cell_later hb d0, cell_later hb d1, cell_later hb d2, cell_later hb d3⟩
    clear c0 c1 c2 c3 d0 d1 d2 d3 b2 b3 b4
    refine wp_region_grow 6 (spD [SP.eq (.agg #[.float .f64 (F lx), .float .f64 (F ly), .float .f64 (F hx), .float .f64 (F hy)]), SP.eq (.agg #[.float .f64 (F lx), .float .f64 (F ly), .float .f64 (F hx), .float .f64 (F hy)]),
      SP.eq (.agg #[.float .f64 (F kx), .float .f64 (F ky), .float .f64 (F mx), .float .f64 (F my)]), SP.eq (.agg #[.float .f64 (F kx), .float .f64 (F ky), .float .f64 (F mx), .float .f64 (F my)]),
      SP.eq (.agg #[.float .f64 (F (max lx kx)), .float .f64 (F (max ly ky)), .float .f64 (F (min hx mx)), .float .f64 (F (min hy my))]), SP.blk wr.heap.size #[.float .f64 0, .float .f64 0, .float .f64 0, .float .f64 0] 73])
      (by kernel_rfl) (by kernel_rfl) (spD_st _) ?hop ?hend
    case hop =>
      simp only [List.take_succ_cons, List.take_zero, OpsOk, List.map_cons, List.map_nil, and_true]
      refine ⟨?_, ?_, ?_, ?_, ?_, ?_⟩
      · intro vs W hb hd R hR
        have hc := HS.out W hb
        go_simp
        exact hR _ _ (Below.refl _ _) rfl
      · intro vs W hb hd
        have g0 : vs 0 = _ := hd.at 0 rfl
        refine opOk_call rfl Try.func37 (by kernel_rfl) (by kernel_rfl) (by simp only [List.map_toArray, List.map_cons, List.map_nil, rho_tmp, lookD_cons, lookD_nil, Option.some.injEq, Nat.reduceEqDiff, if_true, if_false, Nat.reduceAdd, g0]) ((bound_any lx ly hx hy _).mono ?_)
        rintro e wA ⟨rfl, hbA⟩
        exact ⟨_, rfl, hbA, rfl⟩
      · intro vs W hb hd R hR
        have hc := HS.out W hb
        go_simp
        exact hR _ _ (Below.refl _ _) rfl
      · intro vs W hb hd
        have g0 : vs 2 = _ := hd.at 2 rfl
        refine opOk_call rfl Try.func37 (by kernel_rfl) (by kernel_rfl) (by simp only [List.map_toArray, List.map_cons, List.map_nil, rho_tmp, lookD_cons, lookD_nil, Option.some.injEq, Nat.reduceEqDiff, if_true, if_false, Nat.reduceAdd, g0]) ((bound_any kx ky mx my _).mono ?_)
        rintro e wA ⟨rfl, hbA⟩
        exact ⟨_, rfl, hbA, rfl⟩
      · intro vs W hb hd
        have g0 : vs 1 = _ := hd.at 1 rfl
        have g1 : vs 3 = _ := hd.at 3 rfl
        refine opOk_call rfl Try.func39 (by kernel_rfl) (by kernel_rfl) (by simp only [List.map_toArray, List.map_cons, List.map_nil, rho_tmp, lookD_cons, lookD_nil, Option.some.injEq, Nat.reduceEqDiff, if_true, if_false, Nat.reduceAdd, g0, g1]) ((clipBound_any lx ly hx hy kx ky mx my h1 h2 h3 h4 h5 h6 h7 h8 hle hle' hke hke' _).mono ?_)
        rintro e wA ⟨rfl, hbA⟩
        exact ⟨_, rfl, hbA, rfl⟩
      · intro vs W hb hd R hR
        go_simp
        exact hR _ _ ((Below.refl _ _).alloc (Nat.le_refl _) _) ⟨_, rfl, hb.size, Blk.new _ _ _⟩
    case hend =>
      intro vs W hb hd
      have g4 : vs 4 = _ := hd.at 4 rfl
      obtain ⟨g, g5, hg, hblk⟩ := hd.at 5 rfl
      have c0 := hblk.cell 0
      have c1 := hblk.cell 1
      have c2 := hblk.cell 2
      have c3 := hblk.cell 3
      have f0 := hblk.frozen 0
      have f1 := hblk.frozen 1
      have f2 := hblk.frozen 2
      have f3 := hblk.frozen 3
      simp only [List.take_succ_cons, List.take_zero, List.drop_succ_cons, List.drop_zero, List.map_cons, List.map_nil, putAll, Nat.reduceAdd]
      rw [g4, g5]
      clear HS g4 g5 hd
      go_wp2
      go_meet
      exact ⟨g, rfl, (((hblk.set 0 _).set 1 _).set 2 _).set 3 _, (((hb.setCell hg _).setCell hg _).setCell hg _).setCell hg _⟩
  case rest =>
    obtain ⟨g, rfl, hb, hbc⟩ := hcut
    have c0 := hb.cell 0
    have c1 := hb.cell 1
    have c2 := hb.cell 2
    have c3 := hb.cell 3
    have b4 := b4.below hbc b4.lt
    have e0 := b4.cell 0
    have e1 := b4.cell 1
    have e2 := b4.cell 2
    have e3 := b4.cell 3
    have f0 := b4.frozen 0
    have f1 := b4.frozen 1
    have f2 := b4.frozen 2
    have f3 := b4.frozen 3
    have hB4 : Below w.heap.size w wc := hB0.trans (hbc.mono hB0.size)
    clear b2 b3 b4
    go_wp2
    refine bodyPost_ret (v := .agg #[.float .f64 (F (max lx kx)), .float .f64 (F (max ly ky)), .float .f64 (F (min hx mx)), .float .f64 (F (min hy my))]) (by simp [results, Try.results21, go_sem, e0, e1, e2, e3]) rfl ⟨rfl, ?_⟩
    exact (((hB4.setCell (by simp <;> omega) _).setCell (by simp <;> omega) _).setCell (by simp <;> omega) _).setCell (by simp <;> omega) _
end Go.Proofs.Ytlakfamodfgmcaa
