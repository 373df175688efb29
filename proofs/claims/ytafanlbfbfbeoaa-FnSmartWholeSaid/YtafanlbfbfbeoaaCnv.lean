/- The conversions of lists: whole points to points of the package and back. -/
import Derived.Test.YtafanlbfbfbeoaaWay
namespace Go.Proofs.Ytafanlbfbfbeoaa
open Go.RowKit

theorem take_snoc_flat {α : Type} (enc : α → List Value) (ps : List α) (k : Nat) (hk : k < ps.length) : (ps.take k).flatMap enc ++ enc ps[k] = (ps.take (k + 1)).flatMap enc := by
  rw [List.take_succ_eq_append_getElem hk, List.flatMap_append]; simp

set_option maxRecDepth 100000 in
set_option maxHeartbeats 400000 in
theorem specPoints_any (ao : Option Addr) (cap : Nat) (ps : List (Int × Int)) (B : Nat) (w : World) (hl : ps.length ≤ 100000000) (h : w.ownsRow B 25 2 (.slice ao ps.length cap) ps.length (ps.flatMap spotE)) :
    Calls Try.prog 15 #[.slice ao ps.length cap] w fun e w' => ∃ ao' cap', e = .returned (.slice ao' ps.length cap') ∧ w'.ownsRow w.heap.size 39 2 (.slice ao' ps.length cap') ps.length (ps.flatMap ptE) ∧ Below w.heap.size w w' := by
  obtain ⟨i0, hi, hz0, hz1, hz2⟩ := info_parts Try.info39
  obtain ⟨g, hg, hc⟩ := spots_read h
  clear h
  go_enter Try.func15, Try.ntmps15
  go_wp2
  go_loopw [3, 9] (fun v i wr => ∃ (k : Nat) (ao' : Option Addr) (cap' : Nat), k ≤ ps.length ∧ i = .int .i64 k ∧ v = .slice ao' k cap' ∧ wr.ownsRow w.heap.size 39 2 (.slice ao' k cap') k ((ps.take k).flatMap ptE) ∧ Below w.heap.size w wr)
    (fun _ i _ => ps.length - (intOf i).toNat)
  case atStart => exact ⟨0, _, _, Nat.zero_le _, rfl, rfl, own_new w _ (Nat.le_refl _) 39 2 0 [] rfl (by omega), (Below.refl _ _).alloc (Nat.le_refl _) _⟩
  case round =>
    obtain ⟨k, ao', cap', hk, rfl, rfl, hown, hbel⟩ := hrel
    have hsz := hbel.size
    by_cases hlt : k < ps.length
    · obtain ⟨rfl, hgs, _⟩ := hg (by omega)
      obtain ⟨c0, c1⟩ := hc k hlt
      have d0 : wr.cell? ⟨g, k * 2, none⟩ = some (.int .i64 ps[k].1) := (hbel.cell (by exact hgs)).trans c0
      have d1 : wr.cell? ⟨g, k * 2 + 1, none⟩ = some (.int .i64 ps[k].2) := (hbel.cell (by exact hgs)).trans c1
      clear c0 c1 hg hc
      go_wp2_with (at_builtin; refine wpList_push rfl _ _ 43 rfl 39 i0 _ 2 16 Try.underlying43 hi hz0 hz1 hz2 rfl (by decide) (by decide) w _ w.heap.size _ k _ rfl (hown.alloc _) w.heap.size (below_alloc hbel _ (Nat.le_refl _)) (Nat.le_refl _) (by simp; omega) (by omega) [_, _] _ _ (by simp) 1 rfl rfl (by simp [Value.oneCell']) ?_)
      intro g' cap'' w1 hown1 hbel1 _ _ _ _
      have hown2 : w1.ownsRow w.heap.size 39 2 (.slice (some ⟨g', 0, none⟩) (k + 1) cap'') (k + 1) ((ps.take (k + 1)).flatMap ptE) := by rw [← take_snoc_flat ptE ps k hlt]; exact hown1
      clear hown1 hown d0 d1
      go_wp2
      go_roundw
      case rel => exact ⟨k + 1, _, _, by omega, by go_num, rfl, hown2, hbel1⟩
      case measure => simp [intOf]; omega
    · obtain rfl : k = ps.length := by omega
      rw [List.take_length] at hown
      go_wp2
      go_ret
      exact ⟨_, _, rfl, hown, hbel⟩

set_option maxRecDepth 100000 in
set_option maxHeartbeats 400000 in
theorem points_any (ao : Option Addr) (cap : Nat) (ps : List (Int × Int)) (B : Nat) (w : World) (hl : ps.length ≤ 100000000) (h : w.ownsRow B 39 2 (.slice ao ps.length cap) ps.length (ps.flatMap ptE)) :
    Calls Try.prog 29 #[.slice ao ps.length cap] w fun e w' => ∃ ao' cap', e = .returned (.slice ao' ps.length cap') ∧ w'.ownsRow w.heap.size 69 2 (.slice ao' ps.length cap') ps.length (ps.flatMap ptE) ∧ Below w.heap.size w w' := by
  obtain ⟨i0, hi, hz0, hz1, hz2⟩ := info_parts Try.info69
  obtain ⟨g, hg, hc⟩ := pts_read h
  clear h
  go_enter Try.func29, Try.ntmps29
  go_wp2
  go_loopw [3, 9] (fun v i wr => ∃ (k : Nat) (ao' : Option Addr) (cap' : Nat), k ≤ ps.length ∧ i = .int .i64 k ∧ v = .slice ao' k cap' ∧ wr.ownsRow w.heap.size 69 2 (.slice ao' k cap') k ((ps.take k).flatMap ptE) ∧ Below w.heap.size w wr)
    (fun _ i _ => ps.length - (intOf i).toNat)
  case atStart => exact ⟨0, _, _, Nat.zero_le _, rfl, rfl, own_new w _ (Nat.le_refl _) 69 2 0 [] rfl (by omega), (Below.refl _ _).alloc (Nat.le_refl _) _⟩
  case round =>
    obtain ⟨k, ao', cap', hk, rfl, rfl, hown, hbel⟩ := hrel
    have hsz := hbel.size
    by_cases hlt : k < ps.length
    · obtain ⟨rfl, hgs, _⟩ := hg (by omega)
      obtain ⟨c0, c1⟩ := hc k hlt
      have d0 : wr.cell? ⟨g, k * 2, none⟩ = some (.float .f64 (F ps[k].1)) := (hbel.cell (by exact hgs)).trans c0
      have d1 : wr.cell? ⟨g, k * 2 + 1, none⟩ = some (.float .f64 (F ps[k].2)) := (hbel.cell (by exact hgs)).trans c1
      clear c0 c1 hg hc
      go_wp2_with (at_builtin; refine wpList_push rfl _ _ 73 rfl 69 i0 _ 2 16 Try.underlying73 hi hz0 hz1 hz2 rfl (by decide) (by decide) w _ w.heap.size _ k _ rfl (hown.alloc _) w.heap.size (below_alloc hbel _ (Nat.le_refl _)) (Nat.le_refl _) (by simp; omega) (by omega) [_, _] _ _ (by simp) 1 rfl rfl (by simp [Value.oneCell']) ?_)
      intro g' cap'' w1 hown1 hbel1 _ _ _ _
      have hown2 : w1.ownsRow w.heap.size 69 2 (.slice (some ⟨g', 0, none⟩) (k + 1) cap'') (k + 1) ((ps.take (k + 1)).flatMap ptE) := by rw [← take_snoc_flat ptE ps k hlt]; exact hown1
      clear hown1 hown d0 d1
      go_wp2
      go_roundw
      case rel => exact ⟨k + 1, _, _, by omega, by go_num, rfl, hown2, hbel1⟩
      case measure => simp [intOf]; omega
    · obtain rfl : k = ps.length := by omega
      rw [List.take_length] at hown
      go_wp2
      go_ret
      exact ⟨_, _, rfl, hown, hbel⟩
end Go.Proofs.Ytafanlbfbfbeoaa
