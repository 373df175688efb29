/- The box of the package. -/
import Derived.Test.YtafanlbfbfbeoaaCnv
namespace Go.Proofs.Ytafanlbfbfbeoaa
open Go.RowKit

def boxV (lx ly hx hy : Int) : Value := .agg #[.float .f64 (F lx), .float .f64 (F ly), .float .f64 (F hx), .float .f64 (F hy)]

set_option maxRecDepth 100000 in
set_option maxHeartbeats 1000000 in
theorem of_any (lx ly hx hy : Int) (w : World) :
    Calls Try.prog 14 #[.agg #[.int .i64 lx, .int .i64 ly, .int .i64 hx, .int .i64 hy]] w
      fun e w' => e = .returned (.agg #[.float .f64 (F lx), .float .f64 (F ly), .float .f64 (F hx), .float .f64 (F hy)]) ∧ Below w.heap.size w w' := by
  go_enter Try.func14, Try.ntmps14
  go_wp2_with fail
  refine (specPoints_any (some ⟨w.heap.size + 2, 0, none⟩) 2 [(lx, ly), (hx, hy)] w.heap.size _ (by simp) ?h1).mono ?_
  case h1 =>
    have h := own_new ((w.alloc (.cells #[.int .i64 lx, .int .i64 ly, .int .i64 hx, .int .i64 hy] 27)).alloc (.cells #[.float .f64 0, .float .f64 0, .float .f64 0, .float .f64 0] 41)) w.heap.size (by simp; omega) 25 2 2 [.int .i64 lx, .int .i64 ly, .int .i64 hx, .int .i64 hy] rfl (by omega)
    simp only [World.size_alloc] at h
    exact h
  rintro e w1 ⟨ao', cap', rfl, hown, hbel⟩
  obtain ⟨g, hg, hc⟩ := pts_read hown
  obtain ⟨rfl, hgs, hgb⟩ := hg (by simp)
  have c0 : w1.cell? ⟨g, 0, none⟩ = some (.float .f64 (F lx)) := (hc 0 (by simp)).1
  have c1 : w1.cell? ⟨g, 1, none⟩ = some (.float .f64 (F ly)) := (hc 0 (by simp)).2
  have c2 : w1.cell? ⟨g, 2, none⟩ = some (.float .f64 (F hx)) := (hc 1 (by simp)).1
  have c3 : w1.cell? ⟨g, 3, none⟩ = some (.float .f64 (F hy)) := (hc 1 (by simp)).2
  have hbox : Blk w1 (w.heap.size + 1) #[.float .f64 0, .float .f64 0, .float .f64 0, .float .f64 0] 41 := by
    have h := Blk.new (w.alloc (.cells #[.int .i64 lx, .int .i64 ly, .int .i64 hx, .int .i64 hy] 27)) #[.float .f64 0, .float .f64 0, .float .f64 0, .float .f64 0] 41
    simp only [World.size_alloc] at h
    exact (h.alloc _).below hbel (by simp)
  have b0 : w1.cell? ⟨w.heap.size + 1, 0, none⟩ = some (.float .f64 0) := hbox.cell 0
  have b1 : w1.cell? ⟨w.heap.size + 1, 1, none⟩ = some (.float .f64 0) := hbox.cell 1
  have b2 : w1.cell? ⟨w.heap.size + 1, 2, none⟩ = some (.float .f64 0) := hbox.cell 2
  have b3 : w1.cell? ⟨w.heap.size + 1, 3, none⟩ = some (.float .f64 0) := hbox.cell 3
  have f0 : w1.frozen? ⟨w.heap.size + 1, 0, none⟩ = false := hbox.frozen 0
  have f1 : w1.frozen? ⟨w.heap.size + 1, 1, none⟩ = false := hbox.frozen 1
  have f2 : w1.frozen? ⟨w.heap.size + 1, 2, none⟩ = false := hbox.frozen 2
  have f3 : w1.frozen? ⟨w.heap.size + 1, 3, none⟩ = false := hbox.frozen 3
  have hb2 : Below w.heap.size w w1 := by
    refine Below.trans (b := ((w.alloc _).alloc _).alloc _) ((((Below.refl _ _).alloc (Nat.le_refl _) _).alloc (by simp) _).alloc (by simp; omega) _) (hbel.mono (by simp; omega))
  clear hc hg hown
  go_wp2_with fail
  go_region
  go_wp2
  refine bodyPost_ret (v := .agg #[.float .f64 (F lx), .float .f64 (F ly), .float .f64 (F hx), .float .f64 (F hy)]) (by simp [results, Try.results14, go_sem, b0, b1, b2, b3]) rfl ⟨rfl, ?_⟩
  exact ((((hb2.setCell (by simp) _).setCell (by simp) _).setCell (by simp) _).setCell (by simp) _).drew

set_option maxRecDepth 100000 in
set_option maxHeartbeats 1000000 in
theorem bound_any (lx ly hx hy : Int) (w : World) :
    Calls Try.prog 28 #[.agg #[.float .f64 (F lx), .float .f64 (F ly), .float .f64 (F hx), .float .f64 (F hy)]] w
      fun e w' => e = .returned (.agg #[.float .f64 (F lx), .float .f64 (F ly), .float .f64 (F hx), .float .f64 (F hy)]) ∧ Below w.heap.size w w' := by
  go_enter Try.func28, Try.ntmps28
  go_wp2
  refine bodyPost_ret (v := .agg #[.float .f64 (F lx), .float .f64 (F ly), .float .f64 (F hx), .float .f64 (F hy)]) (by simp [results, Try.results28, go_sem]) rfl ⟨rfl, ?_⟩
  exact ((Below.refl _ _).alloc (Nat.le_refl _) _).alloc (by simp) _
end Go.Proofs.Ytafanlbfbfbeoaa
