/- The points that are in a box. -/
import Derived.Test.YtafanlbfbfbeoaaOf
import Derived.Test.YtafanlbfbfbeoaaPlm
namespace Go.Proofs.Ytafanlbfbfbeoaa
open Go.RowKit

set_option maxRecDepth 100000 in
set_option maxHeartbeats 1000000 in
theorem contains_any (lx ly hx hy x y : Int) (h1 : Sm lx) (h2 : Sm ly) (h3 : Sm hx) (h4 : Sm hy) (h5 : Sm x) (h6 : Sm y) (w : World) :
    Calls Try.prog 43 #[.agg #[.float .f64 (F lx), .float .f64 (F ly), .float .f64 (F hx), .float .f64 (F hy)], .agg #[.float .f64 (F x), .float .f64 (F y)]] w
      fun e w' => e = .returned (.bool (hasB lx ly hx hy x y)) ∧ Below w.heap.size w w' := by
  go_enter Try.func43, Try.ntmps43
  go_wp2
  all_goals
    go_ret
    refine ⟨ret_bool ?_, ((Below.refl _ _).alloc (Nat.le_refl _) _).alloc (by simp) _⟩
    unfold hasB
    simp
    try omega

set_option maxRecDepth 100000 in
set_option maxHeartbeats 1000000 in
theorem multi_any (lx ly hx hy : Int) (h1 : Sm lx) (h2 : Sm ly) (h3 : Sm hx) (h4 : Sm hy) (ao : Option Addr) (cap : Nat) (ps : List (Int × Int)) (B : Nat) (w : World) (hs : ∀ p ∈ ps, Sm p.1 ∧ Sm p.2) (hl : ps.length ≤ 100000000)
    (h : w.ownsRow B 69 2 (.slice ao ps.length cap) ps.length (ps.flatMap ptE)) :
    Calls Try.prog 33 #[.agg #[.float .f64 (F lx), .float .f64 (F ly), .float .f64 (F hx), .float .f64 (F hy)], .slice ao ps.length cap] w
      fun e w' => ∃ ao' cap', e = .returned (.slice ao' (ps.filter fun p => hasB lx ly hx hy p.1 p.2).length cap') ∧
        w'.ownsRow w.heap.size 69 2 (.slice ao' (ps.filter fun p => hasB lx ly hx hy p.1 p.2).length cap') (ps.filter fun p => hasB lx ly hx hy p.1 p.2).length ((ps.filter fun p => hasB lx ly hx hy p.1 p.2).flatMap ptE) ∧ Below w.heap.size w w' := by
  obtain ⟨i0, hi, hz0, hz1, hz2⟩ := info_parts Try.info69
  obtain ⟨g, hg, hc⟩ := pts_read h
  clear h
  go_enter Try.func33, Try.ntmps33
  go_wp2
  go_loopw [5, 10] (fun v i wr => ∃ (k : Nat) (ao' : Option Addr) (cap' : Nat), k ≤ ps.length ∧ i = .int .i64 k ∧ v = .slice ao' ((ps.take k).filter fun p => hasB lx ly hx hy p.1 p.2).length cap' ∧
      wr.ownsRow (w.heap.size + 1) 69 2 (.slice ao' ((ps.take k).filter fun p => hasB lx ly hx hy p.1 p.2).length cap') ((ps.take k).filter fun p => hasB lx ly hx hy p.1 p.2).length (((ps.take k).filter fun p => hasB lx ly hx hy p.1 p.2).flatMap ptE) ∧
      Blk wr w.heap.size #[.float .f64 (F lx), .float .f64 (F ly), .float .f64 (F hx), .float .f64 (F hy)] 71 ∧ Below w.heap.size w wr)
    (fun _ i _ => ps.length - (intOf i).toNat)
  case atStart => exact ⟨0, none, 0, Nat.zero_le _, rfl, rfl, World.ownsRow_nil _ _ _ _, Blk.new _ _ _, (Below.refl _ _).alloc (Nat.le_refl _) _⟩
  case round =>
    obtain ⟨k, ao', cap', hk, rfl, rfl, hown, hbox, hbel⟩ := hrel
    have hsz := hbel.size
    have hlen : ((ps.take k).filter fun p => hasB lx ly hx hy p.1 p.2).length ≤ k := Nat.le_trans (List.length_filter_le _ _) (by rw [List.length_take]; omega)
    by_cases hlt : k < ps.length
    · obtain ⟨rfl, hgs, _⟩ := hg (by omega)
      obtain ⟨c0, c1⟩ := hc k hlt
      have d0 : wr.cell? ⟨g, k * 2, none⟩ = some (.float .f64 (F ps[k].1)) := (hbel.cell (by exact hgs)).trans c0
      have d1 : wr.cell? ⟨g, k * 2 + 1, none⟩ = some (.float .f64 (F ps[k].2)) := (hbel.cell (by exact hgs)).trans c1
      have e0 : wr.cell? ⟨w.heap.size, 0, none⟩ = some (.float .f64 (F lx)) := hbox.cell 0
      have e1 : wr.cell? ⟨w.heap.size, 1, none⟩ = some (.float .f64 (F ly)) := hbox.cell 1
      have e2 : wr.cell? ⟨w.heap.size, 2, none⟩ = some (.float .f64 (F hx)) := hbox.cell 2
      have e3 : wr.cell? ⟨w.heap.size, 3, none⟩ = some (.float .f64 (F hy)) := hbox.cell 3
      have hbl := hbox.lt
      have hps := hs ps[k] (List.getElem_mem _)
      clear c0 c1 hg hc
      have HT : Hid ((ps.take (k + 1)).filter (fun p => hasB lx ly hx hy p.1 p.2) = (ps.take k).filter (fun p => hasB lx ly hx hy p.1 p.2) ++ [ps[k]].filter (fun p => hasB lx ly hx hy p.1 p.2)) := by
        rw [List.take_succ_eq_append_getElem hlt, List.filter_append]; exact rfl
      generalize (ps.take k).filter (fun p => hasB lx ly hx hy p.1 p.2) = qs at *
      go_wp2_with fail
      refine (contains_any lx ly hx hy ps[k].1 ps[k].2 h1 h2 h3 h4 hps.1 hps.2 _).mono ?_
      rintro e w1 ⟨rfl, hb1⟩
      have hloop := (Blk.new wr #[.float .f64 (F ps[k].1), .float .f64 (F ps[k].2)] 69).below hb1 (by simp)
      have l0 : w1.cell? ⟨wr.heap.size, 0, none⟩ = some (.float .f64 (F ps[k].1)) := hloop.cell 0
      have l1 : w1.cell? ⟨wr.heap.size, 1, none⟩ = some (.float .f64 (F ps[k].2)) := hloop.cell 1
      have hown1 := own_below (hown.alloc (.cells #[.float .f64 (F ps[k].1), .float .f64 (F ps[k].2)] 69)) hb1 (Nat.le_refl _)
      have hbox1 := (hbox.alloc (.cells #[.float .f64 (F ps[k].1), .float .f64 (F ps[k].2)] 69)).below hb1 (by simp; omega)
      have hbel1 : Below w.heap.size w w1 := (hbel.alloc hsz (.cells #[.float .f64 (F ps[k].1), .float .f64 (F ps[k].2)] 69)).trans (hb1.mono (by simp; omega))
      have hsz1 : w.heap.size + 1 ≤ w1.heap.size := by have := hb1.size; simp at this; omega
      clear hb1 hown hbox hloop d0 d1
      by_cases hb : hasB lx ly hx hy ps[k].1 ps[k].2 = true
      · have hT2 := HT.out
        rw [List.filter_cons_of_pos (by exact hb), List.filter_nil] at hT2
        have HT3 : Hid _ := hT2
        clear hT2 HT
        go_wp2_with (at_builtin; refine wpList_push rfl _ _ 79 rfl 69 i0 _ 2 16 Try.underlying79 hi hz0 hz1 hz2 rfl (by decide) (by decide) w _ (w.heap.size + 1) _ qs.length _ rfl hown1 w.heap.size hbel1 (by omega) (by omega) (by omega) [_, _] _ _ (by simp) 1 rfl rfl (by simp [Value.oneCell']) ?_)
        intro g' cap'' w2 hown2 hbel2 _ hgr _ _
        have hbox2 := (hbox1.alloc (.cells #[.float .f64 (F ps[k].1), .float .f64 (F ps[k].2)] 69)).grown hgr (fun e => by have := (hown1.lt _ e.symm).1; omega)
        have hown3 : w2.ownsRow (w.heap.size + 1) 69 2 (.slice (some ⟨g', 0, none⟩) (qs.length + 1) cap'') (qs.length + 1) ((qs ++ [ps[k]]).flatMap ptE) := by rw [List.flatMap_append]; simpa [ptE] using hown2
        clear hown2 hown1 hbox1 l0 l1 hgr
        go_wp2
        go_roundw
        case rel => exact ⟨k + 1, _, _, by omega, by go_num, by rw [HT3.out, List.length_append]; rfl, by rw [HT3.out, List.length_append]; exact hown3, hbox2, hbel2⟩
        case measure => simp [intOf]; omega
      · have hb' : hasB lx ly hx hy ps[k].1 ps[k].2 = false := by simpa using hb
        have hT2 := HT.out
        rw [List.filter_cons_of_neg (by simpa using hb'), List.filter_nil, List.append_nil] at hT2
        have HT3 : Hid _ := hT2
        clear hT2 HT hb
        go_wp2
        go_roundw
        case rel => exact ⟨k + 1, _, _, by omega, by go_num, by rw [HT3.out], by rw [HT3.out]; exact hown1, hbox1, hbel1⟩
        case measure => simp [intOf]; omega
    · obtain rfl : k = ps.length := by omega
      rw [List.take_length] at hown hlen
      go_wp2
      rw [List.take_length]
      go_ret
      exact ⟨_, _, rfl, own_mono hown (by omega), hbel⟩

set_option maxRecDepth 100000 in
set_option maxHeartbeats 1000000 in
theorem implPoints_any (lx ly hx hy : Int) (h1 : Sm lx) (h2 : Sm ly) (h3 : Sm hx) (h4 : Sm hy) (ao : Option Addr) (cap : Nat) (ps : List (Int × Int)) (B : Nat) (w : World) (hs : ∀ p ∈ ps, Sm p.1 ∧ Sm p.2) (hl : ps.length ≤ 100000000)
    (h : w.ownsRow B 39 2 (.slice ao ps.length cap) ps.length (ps.flatMap ptE)) :
    Calls Try.prog 20 #[.agg #[.float .f64 (F lx), .float .f64 (F ly), .float .f64 (F hx), .float .f64 (F hy)], .slice ao ps.length cap] w
      fun e w' => ∃ ao' cap', e = .returned (.slice ao' (ps.filter fun p => hasB lx ly hx hy p.1 p.2).length cap') ∧
        w'.ownsRow w.heap.size 39 2 (.slice ao' (ps.filter fun p => hasB lx ly hx hy p.1 p.2).length cap') (ps.filter fun p => hasB lx ly hx hy p.1 p.2).length ((ps.filter fun p => hasB lx ly hx hy p.1 p.2).flatMap ptE) ∧ Below w.heap.size w w' := by
  have hlf : (ps.filter fun p => hasB lx ly hx hy p.1 p.2).length ≤ 100000000 := Nat.le_trans (List.length_filter_le _ _) hl
  go_enter Try.func20, Try.ntmps20
  go_wp2_with fail
  refine (bound_any lx ly hx hy _).mono ?_
  rintro e w1 ⟨rfl, hb1⟩
  have ho1 := own_below (h.alloc (.cells #[.float .f64 (F lx), .float .f64 (F ly), .float .f64 (F hx), .float .f64 (F hy)] 41)) hb1 (Nat.le_refl _)
  have hB1 : Below w.heap.size w w1 := ((Below.refl _ _).alloc (Nat.le_refl _) _).trans (hb1.mono (by simp))
  clear hb1 h
  go_wp2_with fail
  refine (points_any ao cap ps B _ hl ho1).mono ?_
  rintro e w2 ⟨ao2, cap2, rfl, ho2, hb2⟩
  have hB2 := hB1.trans (hb2.mono hB1.size)
  clear ho1 hb2
  go_wp2_with fail
  refine (multi_any lx ly hx hy h1 h2 h3 h4 ao2 cap2 ps _ _ hs hl ho2).mono ?_
  rintro e w3 ⟨ao3, cap3, rfl, ho3, hb3⟩
  have hB3 := hB2.trans (hb3.mono hB2.size)
  clear ho2 hb3
  go_wp2_with fail
  refine (plainMulti_any ao3 cap3 _ _ _ hlf ho3).mono ?_
  rintro e w4 ⟨ao4, cap4, rfl, ho4, hb4⟩
  have hB4 := hB3.trans (hb4.mono hB3.size)
  have ho5 := own_mono ho4 hB3.size
  clear ho3 hb4 ho4
  go_wp2_with fail
  go_ret
  exact ⟨_, _, rfl, ho5, hB4⟩
end Go.Proofs.Ytafanlbfbfbeoaa
