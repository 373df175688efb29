/- What the proofs over smartclip lean on, part 8 of 48. -/
import Derived.Test.YtafanlbfbfbeoaaM06
import Derived.ChangeAlike
import Derived.WideLaws

/- Small functions of aroundBound. -/
namespace Go.Proofs.Ytafanlbfbfbeoaa
open Go.RowKit

/-- Where a point lies to an open box. -/
def codeS (lx ly hx hy x y : Int) : Int := (if x ≤ lx then 1 else if hx ≤ x then 2 else 0) + (if y ≤ ly then 4 else if hy ≤ y then 8 else 0)

set_option maxRecDepth 100000 in
set_option maxHeartbeats 1000000 in
theorem bitCodeSmart_any (lx ly hx hy x y : Int) (h1 : Sm lx) (h2 : Sm ly) (h3 : Sm hx) (h4 : Sm hy) (h5 : Sm x) (h6 : Sm y) (w : World) :
    Calls Try.prog 62 #[.agg #[.float .f64 (F lx), .float .f64 (F ly), .float .f64 (F hx), .float .f64 (F hy)], .agg #[.float .f64 (F x), .float .f64 (F y)]] w
      fun e w' => e = .returned (.int .i64 (codeS lx ly hx hy x y)) ∧ Below w.heap.size w w' := by
  go_enter Try.func62, Try.ntmps62
  go_wp2
  all_goals
    go_ret
    refine ⟨ret_int ?_, ((Below.refl _ _).alloc (Nat.le_refl _) _).alloc (by simp) _⟩
    unfold codeS
    (repeat' split) <;> first | omega | rfl

/-- The point for a code, by halves. -/
def pointI (lx ly hx hy c : Int) : Int × Int :=
  (if c = 1 ∨ c = 5 ∨ c = 9 then 2 * lx else if c = 2 ∨ c = 6 ∨ c = 10 then 2 * hx else hx + lx, if c = 4 ∨ c = 5 ∨ c = 6 then 2 * ly else if c = 8 ∨ c = 9 ∨ c = 10 then 2 * hy else hy + ly)

def Codes (c : Int) : Prop := c = 1 ∨ c = 2 ∨ c = 4 ∨ c = 5 ∨ c = 6 ∨ c = 8 ∨ c = 9 ∨ c = 10

set_option maxRecDepth 100000 in
set_option maxHeartbeats 1000000 in
theorem pointFor_any (lx ly hx hy c : Int) (h1 : Sm lx) (h2 : Sm ly) (h3 : Sm hx) (h4 : Sm hy) (h5 : Sm (hx + lx)) (h6 : Sm (hy + ly)) (hc : Codes c) (w : World) :
    Calls Try.prog 63 #[.agg #[.float .f64 (F lx), .float .f64 (F ly), .float .f64 (F hx), .float .f64 (F hy)], .int .i64 c] w
      fun e w' => e = .returned (.agg #[.float .f64 (H (pointI lx ly hx hy c).1), .float .f64 (H (pointI lx ly hx hy c).2)]) ∧ Below w.heap.size w w' := by
  have e1 : Hid _ := F_H (n := lx) (by unfold Sm at h1; omega)
  have e2 : Hid _ := F_H (n := ly) (by unfold Sm at h2; omega)
  have e3 : Hid _ := F_H (n := hx) (by unfold Sm at h3; omega)
  have e4 : Hid _ := F_H (n := hy) (by unfold Sm at h4; omega)
  rcases hc with rfl | rfl | rfl | rfl | rfl | rfl | rfl | rfl
  all_goals
    go_enter Try.func63, Try.ntmps63
    go_wp2
    refine bodyPost_ret (v := .agg #[.float .f64 _, .float .f64 _]) (by simp [results, Try.results63, go_sem]; exact ⟨rfl, rfl⟩) rfl ⟨?_, ?_⟩
    · simp [pointI, e1.out, e2.out, e3.out, e4.out]
    · exact ((Below.refl _ _).alloc (Nat.le_refl _) _).alloc (by simp) _

/-- The corner or middle behind another. -/
def nextI (o c : Int) : Int :=
  if o = 1 then (if c = 1 then 5 else if c = 5 then 4 else if c = 4 then 6 else if c = 6 then 2 else if c = 2 then 10 else if c = 10 then 8 else if c = 8 then 9 else if c = 9 then 1 else -1)
  else (if c = 1 then 9 else if c = 9 then 8 else if c = 8 then 10 else if c = 10 then 2 else if c = 2 then 6 else if c = 6 then 4 else if c = 4 then 5 else if c = 5 then 1 else -1)

def nextsV (o : Int) : Value := .agg ((List.range 11).map fun (c : Nat) => Value.int .i64 (nextI o c)).toArray

def nxA : Array Value := #[.int .i64 (-1), .int .i64 9, .int .i64 6, .int .i64 (-1), .int .i64 5, .int .i64 1, .int .i64 4, .int .i64 (-1), .int .i64 10, .int .i64 8, .int .i64 2]
def nxB : Array Value := #[.int .i64 (-1), .int .i64 5, .int .i64 10, .int .i64 (-1), .int .i64 6, .int .i64 4, .int .i64 2, .int .i64 (-1), .int .i64 9, .int .i64 1, .int .i64 8]

def putMap (w : World) (b : Nat) (o : Obj) : World := { w with heap := w.heap.setIfInBounds b o }

theorem run_setMap {P : Program} {w : World} {r : Nat} {es : Array MapEntry} {clock : Nat} (o : Obj) (h : w.heap[r]? = some (.map es clock)) : (setObj r o).run P w = .ok () (putMap w r o) := by simp [setObj, Sem.run, h, putMap]

@[go_sem] theorem run_mkMap {P : Program} (w : World) (t : TypeId) : (Instr.makeMap t none).run P w = .ok (.map (some w.heap.size)) (w.alloc (.map #[] 0)) := rfl

theorem putMap_at {w : World} {b : Nat} {o o' : Obj} (h : w.heap[b]? = some o') : (putMap w b o).heap[b]? = some o := by
  have hlt : b < w.heap.size := by
    rcases Nat.lt_or_ge b w.heap.size with h1 | h1
    · exact h1
    · rw [Array.getElem?_eq_none h1] at h; cases h
  simp [putMap, hlt]

@[go_sem] theorem cell_putMap (w : World) (b : Nat) (o : Obj) (g k : Nat) (h : g ≠ b) : (putMap w b o).cell? ⟨g, k, none⟩ = w.cell? ⟨g, k, none⟩ := by
  simp only [World.cell?, putMap, Array.getElem?_setIfInBounds]
  rw [if_neg (by omega)]
@[go_sem] theorem frozen_putMap (w : World) (b : Nat) (o : Obj) (g k : Nat) (h : g ≠ b) : (putMap w b o).frozen? ⟨g, k, none⟩ = w.frozen? ⟨g, k, none⟩ := by
  simp only [World.frozen?, putMap, Array.getElem?_setIfInBounds]
  rw [if_neg (by omega)]
@[go_sem] theorem putMap_size (w : World) (b : Nat) (o : Obj) : (putMap w b o).heap.size = w.heap.size := by simp [putMap]

theorem blk_putMap {w : World} {b b' : Nat} {cs : Array Value} {e : TypeId} {o : Obj} (h : Blk w b cs e) (hne : b ≠ b') : Blk (putMap w b' o) b cs e := by
  show (w.heap.setIfInBounds b' o)[b]? = _
  rw [Array.getElem?_setIfInBounds, if_neg (by omega)]
  exact h

theorem below_putMap {B : Nat} {W w : World} (h : Below B W w) (b : Nat) (o : Obj) (hb : B ≤ b) : Below B W (putMap w b o) :=
  h.trans ⟨rfl, rfl, rfl, by simp [Go.Proofs.Ytafanlbfbfbeoaa.putMap], fun k hk => by simp only [Go.Proofs.Ytafanlbfbfbeoaa.putMap, Array.getElem?_setIfInBounds]; rw [if_neg (by omega)]⟩

set_option maxRecDepth 100000 in
theorem nx_check (e : Bool) (c : Int) (w : World) : (Instr.checkKey e 10000 76 (.int .i8 c)).run Try.prog w = .ok () w := by
  show (Instr.checkKey e (9999 + 1) 76 (.int .i8 c)).run Try.prog w = .ok () w
  rw [Instr.checkKey]
  simp [go_sem, run_underlying Try.underlying76]

theorem nx_find0 (c : Int) (w : World) : (Instr.findKey 76 (.int .i8 c) []).run Try.prog w = .ok none w := by
  simp [go_sem, Instr.findKey, run_underlying Try.underlying76, Instr.findNow]

theorem nx_find1 (c k : Int) (v : Value) (n : Nat) (w : World) (es : List MapEntry) (hc : c ≠ k) (h : Instr.findNow (.int .i8) (.int .i8 c) es 1 = some none) : (Instr.findKey 76 (.int .i8 c) (⟨.int .i8 k, v, n⟩ :: es)).run Try.prog w = .ok none w := by
  have hb : (c == k) = false := by simpa using hc
  simp [go_sem, Instr.findKey, run_underlying Try.underlying76, Instr.findNow, Instr.sameNow, hb, h]

set_option maxRecDepth 100000 in
theorem nx_ins1 (w : World) (b : Nat) (v : Value) (hb : w.heap[b]? = some (.map #[] 0)) :
    (Instr.mapUpdate 149 (.map (some b)) (.int .i8 (-1)) v).run Try.prog w = .ok () (putMap w b (.map #[⟨.int .i8 (-1), v, 0⟩] 1)) := by
  have h1 := run_getObj_map (P := Try.prog) (w := w) b _ _ hb
  have h2 := fun o => run_setMap (P := Try.prog) o hb
  unfold Instr.mapUpdate
  simp only [Sem.run_bind, run_underlying Try.underlying149, Result.andThen_ok, h1, nx_check, nx_find0, h2]
  rfl

set_option maxRecDepth 100000 in
theorem nx_ins2 (w : World) (b : Nat) (u v : Value) (hb : w.heap[b]? = some (.map #[⟨.int .i8 (-1), u, 0⟩] 1)) :
    (Instr.mapUpdate 149 (.map (some b)) (.int .i8 1) v).run Try.prog w = .ok () (putMap w b (.map #[⟨.int .i8 (-1), u, 0⟩, ⟨.int .i8 1, v, 1⟩] 2)) := by
  have h1 := run_getObj_map (P := Try.prog) (w := w) b _ _ hb
  have h2 := fun o => run_setMap (P := Try.prog) o hb
  have h3 := nx_find1 1 (-1) u 0 w [] (by decide) rfl
  unfold Instr.mapUpdate
  simp only [Sem.run_bind, run_underlying Try.underlying149, Result.andThen_ok, h1, nx_check, h3, h2]
  rfl

set_option maxRecDepth 100000 in
theorem nx_look (w : World) (b : Nat) (u v : Value) (o : Int) (ho : o = 1 ∨ o = -1) (hb : w.heap[b]? = some (.map #[⟨.int .i8 (-1), u, 0⟩, ⟨.int .i8 1, v, 1⟩] 2)) :
    (Instr.lookup 149 (.map (some b)) (.int .i8 o) false).run Try.prog w = .ok (if o = 1 then v else u) w := by
  have h1 := run_getObj_map (P := Try.prog) (w := w) b _ _ hb
  unfold Instr.lookup
  simp only [Sem.run_bind, run_underlying Try.underlying149, Result.andThen_ok, h1, nx_check]
  rcases ho with rfl | rfl
  · simp [go_sem, Instr.findKey, run_underlying Try.underlying76, Instr.findNow, Instr.sameNow]
  · simp [go_sem, Instr.findKey, run_underlying Try.underlying76, Instr.findNow, Instr.sameNow]

section
variable {P : Program} {ops : Array Oper} {rest : List Oper} {o : Oper} {a : Act} {Q : Exit → Act → World → Prop} {w : World}
theorem wpList_ins (hg : o.guard = none) (m k x : Operand) (t : TypeId) (hop : o.op = Op.insert t m k x) (b : Nat) (key : Value) (w1 : World) (hm : a.eval m = .map (some b)) (hk : a.eval k = key)
    (hrun : (Instr.mapUpdate t (.map (some b)) key (a.eval x)).run P w = .ok () w1) (hK : wpList P ops Q rest (a.put o.dst undef) w1) : wpList P ops Q (o :: rest) a w := by
  refine wpList_plain hg fun K' hK' => ?_
  unfold Oper.wp
  simp [execOp, hop, hm, hk, hrun, Result.andThen]
  exact hK' _ _ hK

theorem wpList_look (hg : o.guard = none) (m k : Operand) (t : TypeId) (hop : o.op = Op.lookup t m k false) (b : Nat) (key v : Value) (hm : a.eval m = .map (some b)) (hk : a.eval k = key)
    (hrun : (Instr.lookup t (.map (some b)) key false).run P w = .ok v w) (hK : wpList P ops Q rest (a.put o.dst v) w) : wpList P ops Q (o :: rest) a w := by
  refine wpList_plain hg fun K' hK' => ?_
  unfold Oper.wp
  simp [execOp, hop, hm, hk, hrun, Result.andThen]
  exact hK' _ _ hK
end

set_option maxRecDepth 100000 in
set_option maxHeartbeats 2000000 in
theorem nexts_any (o : Int) (ho : o = 1 ∨ o = -1) (w : World) :
    Calls Try.prog 61 #[.int .i8 o] w fun e w' => e = .returned (nextsV o) ∧ Below w.heap.size w w' := by
  have hb : ∀ o o', ((w.alloc o).alloc o').heap[w.heap.size + 1]? = some o' := fun o o' => by
    have := heap_alloc_new (w.alloc o) o'
    simpa using this
  have hl : ∀ o o' p q, Below w.heap.size w (putMap (putMap ((w.alloc o).alloc o') (w.heap.size + 1) p) (w.heap.size + 1) q) := fun o o' p q =>
    below_putMap (below_putMap (((Below.refl _ _).alloc (Nat.le_refl _) _).alloc (by simp) _) _ _ (by omega)) _ _ (by omega)
  have hz : ∀ c o' p q, Blk (putMap (putMap ((w.alloc (.cells c 130)).alloc o') (w.heap.size + 1) p) (w.heap.size + 1) q) w.heap.size c 130 := fun c o' p q =>
    blk_putMap (blk_putMap ((Blk.new w _ _).alloc _) (by omega)) (by omega)
  rcases ho with rfl | rfl
  · go_enter Try.func61, Try.ntmps61
    go_wp2
    rw [nx_ins1 _ _ _ (hb _ _)]
    go_wp2
    rw [nx_ins2 _ _ _ _ (putMap_at (hb _ _))]
    go_wp2
    rw [nx_look _ _ _ _ 1 (.inl rfl) (putMap_at (putMap_at (hb _ _)))]
    go_wp2
    refine bodyPost_ret (v := nextsV 1) (by simp [results, Try.results61, go_sem]; rfl) rfl ⟨rfl, ?_⟩
    repeat (first | (with_reducible exact hl _ _ _ _) | (with_reducible refine Below.drew ?_) | (with_reducible refine Below.setCell ?_ ?_ _; rotate_left 1; exact Nat.le_refl _))
  · go_enter Try.func61, Try.ntmps61
    go_wp2
    rw [nx_ins1 _ _ _ (hb _ _)]
    go_wp2
    rw [nx_ins2 _ _ _ _ (putMap_at (hb _ _))]
    go_wp2
    rw [nx_look _ _ _ _ (-1) (.inr rfl) (putMap_at (putMap_at (hb _ _)))]
    go_wp2
    refine bodyPost_ret (v := nextsV (-1)) (by simp [results, Try.results61, go_sem]; rfl) rfl ⟨rfl, ?_⟩
    repeat (first | (with_reducible exact hl _ _ _ _) | (with_reducible refine Below.drew ?_) | (with_reducible refine Below.setCell ?_ ?_ _; rotate_left 1; exact Nat.le_refl _))
end Go.Proofs.Ytafanlbfbfbeoaa
