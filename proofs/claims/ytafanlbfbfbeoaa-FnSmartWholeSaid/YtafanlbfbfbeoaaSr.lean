/- A ring within a box, clipped smartly: itself. -/
import Derived.Test.YtafanlbfbfbeoaaCi
import Derived.Test.YtafanlbfbfbeoaaOf
namespace Go.Proofs.Ytafanlbfbfbeoaa
open Go.RowKit

theorem ptE_dbl {p : Int × Int} (hp : Near p) : ptE p = hE (dblP p) := by
  have h := hp.sm
  unfold Sm at h
  have e1 : F p.1 = H (2 * p.1) := F_H (by omega)
  have e2 : F p.2 = H (2 * p.2) := F_H (by omega)
  show [Value.float .f64 (F p.1), Value.float .f64 (F p.2)] = [Value.float .f64 (H (2 * p.1)), Value.float .f64 (H (2 * p.2))]
  rw [e1, e2]

theorem flat_dbl {ps : List (Int × Int)} (h : ∀ p ∈ ps, Near p) : ps.flatMap ptE = (ps.map dblP).flatMap hE := by
  have e : ∀ p ∈ ps, ptE p = hE (dblP p) := fun p hp => ptE_dbl (h p hp)
  clear h
  generalize ptE = f at *
  generalize hE = g at *
  induction ps with
  | nil => simp
  | cons p ps ih =>
    simp only [List.flatMap_cons, List.map_cons]
    rw [ih (fun q hq => e q (List.mem_cons_of_mem _ hq)), e p List.mem_cons_self]

theorem own_dbl {w : World} {B : Nat} {e : TypeId} {v : Value} {ps : List (Int × Int)} (hn : ∀ p ∈ ps, Near p) (h : w.ownsRow B e 2 v ps.length (ps.flatMap ptE)) : w.ownsRow B e 2 v (ps.map dblP).length ((ps.map dblP).flatMap hE) := by
  rw [List.length_map, ← flat_dbl hn]; exact h

/-- How a ring turns. -/
def turnI (o : Bool) : Int := if o then 1 else -1

set_option maxRecDepth 100000 in
set_option maxHeartbeats 1000000 in
theorem turn_any (o : Bool) (w : World) : Calls Try.prog 30 #[.bool o] w fun e w' => e = .returned (.int .i8 (turnI o)) ∧ w' = w := by
  cases o
  all_goals
    go_enter Try.func30, Try.ntmps30
    go_wp2
    go_ret
    exact ⟨rfl, rfl⟩

theorem one_poly {ys : List (Value × List (Value × List (Int × Int)))} {r u : Value} {qs : List (Int × Int)} (h : ys.map (fun y => y.2.map Prod.snd) = [(r, [(u, qs)])].map (fun x => x.2.map Prod.snd)) : ∃ r' u', ys = [(r', [(u', qs)])] := by
  cases ys with
  | nil => simp at h
  | cons y ys =>
    obtain ⟨r', y2⟩ := y
    simp only [List.map_cons, List.map_nil] at h
    obtain ⟨h1, h2⟩ := List.cons.inj h
    obtain ⟨u', rfl⟩ := one_row h1
    rw [List.map_eq_nil_iff] at h2
    subst h2
    exact ⟨r', u', rfl⟩

/-- A literal of one polygon of one ring. -/
theorem poly_one {w : World} {B B' : Nat} {t3 t2 e : TypeId} {enc : Int × Int → List Value} {ao : Option Addr} {cap : Nat} {ps : List (Int × Int)} {n : Nat} (hB : B ≤ w.heap.size) (ho : w.ownsRow B' e 2 (.slice ao n cap) ps.length (ps.flatMap enc)) :
    PolysAt ((w.alloc (.cells #[.slice ao n cap] t2)).alloc (.cells #[.slice (some ⟨w.heap.size, 0, none⟩) 1 1] t3)) B t3 t2 e enc (.slice (some ⟨w.heap.size + 1, 0, none⟩) 1 1) [(.slice (some ⟨w.heap.size, 0, none⟩) 1 1, [(.slice ao n cap, ps)])] := by
  obtain ⟨ao', cap', hv⟩ := own_form ho
  cases hv
  have h1 := own_new (w.alloc (.cells #[.slice ao ps.length cap] t2)) B (by simp; omega) t3 1 1 [.slice (some ⟨w.heap.size, 0, none⟩) 1 1] rfl (by omega)
  rw [World.size_alloc] at h1
  refine ⟨_, 1, rfl, h1, fun x hx => ?_⟩
  rw [List.mem_singleton.1 hx]
  exact (rows_one (t := t2) (B := 0) (Nat.zero_le _) ho).alloc _

set_option maxRecDepth 100000 in
set_option maxHeartbeats 1000000 in
theorem smartIn_any (lx ly hx hy : Int) (hl : Near (lx, ly)) (hh : Near (hx, hy)) (h1 : lx < hx) (h2 : ly < hy) (o : Int) (ao : Option Addr) (cap : Nat) (ps : List (Int × Int)) (B : Nat) (w : World) (h4 : 4 ≤ ps.length) (hlen : ps.length ≤ 1000) (hn : ∀ p ∈ ps, Near p)
    (hoc : ∀ i (h : i + 1 < ps.length), Octi ps[i] ps[i + 1]) (he : ps[ps.length - 1] = ps[0]) (hR : lineL true lx ly hx hy ps = [ps]) (hin : (lx < ps[0].1 ∧ ps[0].1 < hx) ∧ ly < ps[0].2 ∧ ps[0].2 < hy) (h : w.ownsRow B 69 2 (.slice ao ps.length cap) ps.length (ps.flatMap ptE)) :
    Calls Try.prog 27 #[.agg #[.float .f64 (F lx), .float .f64 (F ly), .float .f64 (F hx), .float .f64 (F hy)], .slice ao ps.length cap, .int .i8 o] w
      fun e w' => ∃ v r u, e = .returned v ∧ PolysAt w' w.heap.size 86 74 69 hE v [(r, [(u, ps.map dblP)])] ∧ Below w.heap.size w w' := by
  have hclip := fun v B W hr => clipInside_any lx ly hx hy hl hh h1 h2 v (.slice ao ps.length cap) ps B W h4 hlen hn hoc he hR hin hr
  have hd := own_dbl hn h
  clear hR hoc he hin
  go_enter Try.func27, Try.ntmps27
  go_wp2_with fail
  have hr := rows_one (t := 74) (Nat.zero_le _) (h.alloc (.cells #[.float .f64 (F lx), .float .f64 (F ly), .float .f64 (F hx), .float .f64 (F hy)] 71))
  simp only [World.size_alloc] at hr
  refine (hclip _ 0 _ hr).mono ?_
  rintro e w1 ⟨ao1, cap1, ao2, cap2, rfl, hb1⟩
  have hB1 : Below w.heap.size w w1 := (((Below.refl _ _).alloc (Nat.le_refl _) _).alloc (by simp) _).trans (hb1.mono (by simp; omega))
  have hd1 := own_below hd (C := w.heap.size) hB1 (Nat.le_refl _)
  clear hclip hr hb1 h hd
  go_wp2_with fail
  go_ret
  exact ⟨_, _, _, rfl, poly_one hB1.size hd1, below_alloc (below_alloc hB1 _ (Nat.le_refl _)) _ (Nat.le_refl _)⟩

set_option maxRecDepth 100000 in
set_option maxHeartbeats 1000000 in
theorem implSmartIn_any (lx ly hx hy : Int) (hl : Near (lx, ly)) (hh : Near (hx, hy)) (h1 : lx < hx) (h2 : ly < hy) (o : Bool) (ao : Option Addr) (cap : Nat) (ps : List (Int × Int)) (B : Nat) (w : World) (h4 : 4 ≤ ps.length) (hlen : ps.length ≤ 1000) (hn : ∀ p ∈ ps, Near p)
    (hoc : ∀ i (h : i + 1 < ps.length), Octi ps[i] ps[i + 1]) (he : ps[ps.length - 1] = ps[0]) (hR : lineL true lx ly hx hy ps = [ps]) (hin : (lx < ps[0].1 ∧ ps[0].1 < hx) ∧ ly < ps[0].2 ∧ ps[0].2 < hy) (h : w.ownsRow B 39 2 (.slice ao ps.length cap) ps.length (ps.flatMap ptE)) :
    Calls Try.prog 13 #[.agg #[.float .f64 (F lx), .float .f64 (F ly), .float .f64 (F hx), .float .f64 (F hy)], .slice ao ps.length cap, .bool o] w
      fun e w' => ∃ v r u, e = .returned v ∧ PolysAt w' w.heap.size 46 43 39 hE v [(r, [(u, ps.map dblP)])] ∧ Below w.heap.size w w' := by
  have hlp : ps.length ≤ 100000000 := by omega
  have hsm := fun o ao cap B W hr => smartIn_any lx ly hx hy hl hh h1 h2 o ao cap ps B W h4 hlen hn hoc he hR hin hr
  clear hR hoc he hin
  go_enter Try.func13, Try.ntmps13
  go_wp2_with fail
  refine (bound_any lx ly hx hy _).mono ?_
  rintro e w1 ⟨rfl, hb1⟩
  have ho1 := own_below (h.alloc (.cells #[.float .f64 (F lx), .float .f64 (F ly), .float .f64 (F hx), .float .f64 (F hy)] 41)) hb1 (Nat.le_refl _)
  have hB1 : Below w.heap.size w w1 := ((Below.refl _ _).alloc (Nat.le_refl _) _).trans (hb1.mono (by simp))
  clear hb1 h
  go_wp2_with fail
  refine (points_any ao cap ps B _ hlp ho1).mono ?_
  rintro e w2 ⟨ao2, cap2, rfl, ho2, hb2⟩
  have hB2 := hB1.trans (hb2.mono hB1.size)
  clear ho1 hb2
  go_wp2_with fail
  refine (turn_any o _).mono ?_
  rintro e w3 ⟨rfl, rfl⟩
  go_wp2_with fail
  refine (hsm _ ao2 cap2 _ _ ho2).mono ?_
  rintro e w4 ⟨v4, r4, u4, rfl, hp4, hb4⟩
  have hB4 := hB2.trans (hb4.mono hB2.size)
  clear ho2 hb4 hsm
  go_wp2_with fail
  refine (plainPolygonsH_any v4 _ _ _ (fun x hx => by rw [List.mem_singleton.1 hx]; exact ⟨fun y hy => by rw [List.mem_singleton.1 hy]; simp; omega, by simp⟩) (by simp) hp4).mono ?_
  rintro e w5 ⟨v5, ys, rfl, hys, hp5, hb5⟩
  obtain ⟨r5, u5, rfl⟩ := one_poly hys
  have hB5 := hB4.trans (hb5.mono hB4.size)
  have hp6 := hp5.mono hB4.size
  clear hp4 hb5 hp5 hys
  go_wp2_with fail
  go_ret
  exact ⟨_, r5, u5, rfl, hp6, hB5⟩
end Go.Proofs.Ytafanlbfbfbeoaa
