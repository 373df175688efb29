/- What the proofs over smartclip lean on, part 14 of 48. -/
import Derived.Test.YtafanlbfbfbeoaaM08
import Derived.Test.YtafanlbfbfbeoaaM06
import Derived.ChangeAlike
import Derived.Deep.DeepCutAuto

/- Swap of endpoints. -/
namespace Go.Proofs.Ytafanlbfbfbeoaa
open Go.RowKit

set_option maxRecDepth 100000 in
set_option maxHeartbeats 4000000 in
theorem swap_apart (W : World) (sb pb n cap g1 g2 gp gq i j x y : Nat) (R Gp Gq : Array Value) (te : TypeId) (mv : Value)
    (hi : i < n) (hj : j < n) (hx : x < n) (hy : y < n) (_hn : n ≤ 255)
    (hse : Blk W sb #[mv, .slice (some ⟨pb, 0, none⟩) n cap] 112)
    (hrow : Blk W pb R te) (r1 : W.cell? ⟨pb, i, none⟩ = some (.pointer (some ⟨g1, 0, none⟩))) (r2 : W.cell? ⟨pb, j, none⟩ = some (.pointer (some ⟨g2, 0, none⟩)))
    (rx : W.cell? ⟨pb, x, none⟩ = some (.pointer (some ⟨gp, 0, none⟩))) (ry : W.cell? ⟨pb, y, none⟩ = some (.pointer (some ⟨gq, 0, none⟩)))
    (o1 : W.cell? ⟨g1, 6, none⟩ = some (.int .i64 x)) (o2 : W.cell? ⟨g2, 6, none⟩ = some (.int .i64 y))
    (bp : Blk W gp Gp 108) (bq : Blk W gq Gq 108)
    (vp vq : Value) (wp : W.cell? ⟨gp, 6, none⟩ = some vp) (wq : W.cell? ⟨gq, 6, none⟩ = some vq) (npq : gp ≠ gq) (hij : i ≠ j) (hji : j ≠ i) (n1 : gp ≠ pb) (n2 : gq ≠ pb) (n3 : gp ≠ sb) (n4 : gq ≠ sb) (n5 : pb ≠ sb) :
    Calls Try.prog 111 #[.pointer (some ⟨sb, 0, none⟩), .int .i64 i, .int .i64 j] W fun e w' => e = .returned (.tuple #[]) ∧ w' = ((((W.setCell ⟨gp, 6, none⟩ (.int .i64 j)).setCell ⟨gq, 6, none⟩ (.int .i64 i)).setCell ⟨pb, i, none⟩ (.pointer (some ⟨g2, 0, none⟩))).setCell ⟨pb, j, none⟩ (.pointer (some ⟨g1, 0, none⟩))).drew.drew := by
  have hiz : (i : Int) < (n : Int) := by omega
  have hjz : (j : Int) < (n : Int) := by omega
  have hxz : (x : Int) < (n : Int) := by omega
  have hyz : (y : Int) < (n : Int) := by omega
  have c1 : W.cell? ⟨sb, 1, none⟩ = some (.slice (some ⟨pb, 0, none⟩) n cap) := hse.cell 1
  have fz := fun k => hrow.frozen k
  have fp := fun k => bp.frozen k
  have fq := fun k => bq.frozen k
  go_enter Try.func111, Try.ntmps111
  go_wp2
  go_cut [] (fun wc => wc = ((W.setCell ⟨gp, 6, none⟩ (.int .i64 j)).setCell ⟨gq, 6, none⟩ (.int .i64 i)).drew)
  case first =>
    go_region
    all_goals go_wp2
    all_goals go_meet
    all_goals rfl
  case rest =>
    have n1' := Ne.symm n1
    have n2' := Ne.symm n2
    have n3' := Ne.symm n3
    have n4' := Ne.symm n4
    have hro : Blk wc pb R te := by rw [hcut]; exact ((hrow.setOther _ n1' _).setOther _ n2' _).drew
    have c1' : wc.cell? ⟨sb, 1, none⟩ = some (.slice (some ⟨pb, 0, none⟩) n cap) := by
      have h : Blk wc sb #[mv, .slice (some ⟨pb, 0, none⟩) n cap] 112 := by rw [hcut]; exact ((hse.setOther _ n3' _).setOther _ n4' _).drew
      exact h.cell 1
    have r1' : wc.cell? ⟨pb, i, none⟩ = some (.pointer (some ⟨g1, 0, none⟩)) := by rw [hro.cell, ← hrow.cell]; exact r1
    have r2' : wc.cell? ⟨pb, j, none⟩ = some (.pointer (some ⟨g2, 0, none⟩)) := by rw [hro.cell, ← hrow.cell]; exact r2
    have fz' := fun k => hro.frozen k
    have HC : Hid (wc = ((W.setCell ⟨gp, 6, none⟩ (.int .i64 j)).setCell ⟨gq, 6, none⟩ (.int .i64 i)).drew) := hcut
    clear hcut fz fp fq c1 hse hrow r1 r2 rx ry o1 o2 bp bq wp wq hro
    go_wp2
    go_region
    all_goals go_wp2
    all_goals go_end0
    all_goals exact ⟨rfl, by rw [HC.out]; rfl⟩
end Go.Proofs.Ytafanlbfbfbeoaa
