/- What the proofs over smartclip lean on, part 26 of 48. -/
import Derived.Test.YtafanlbfbfbeoaaM07
import Derived.Test.YtafanlbfbfbeoaaM16
import Derived.Test.YtafanlbfbfbeoaaM23
import Derived.Test.YtafanlbfbfbeoaaM24

/- Around the box: the corners and middles between two places. -/
namespace Go.Proofs.Ytafanlbfbfbeoaa
open Go.RowKit

/-- The codes between two places. -/
def walkB (o t : Int) : Nat → Int → List Int
  | 0, _ => []
  | k + 1, c => if c = t then [] else c :: walkB o t k (nextI o c)

/-- The code of the middle of a side. -/
def midC (s : Nat) : Int := if s = 1 then 1 else if s = 2 then 4 else if s = 3 then 2 else 8

def beforeE (o : Int) (l f : EPt) : Prop := if o = 1 then l.pos < f.pos else f.pos < l.pos
instance (o : Int) (l f : EPt) : Decidable (beforeE o l f) := by unfold beforeE; infer_instance

/-- The corners and middles between an end, at l, and a start, at f. -/
def aroundL (o lx ly hx hy : Int) (f l : EPt) : List (Int × Int) :=
  if f.side = l.side ∧ beforeE o l f then [] else (walkB o (midC f.side) 8 (nextI o (midC l.side))).map (pointI lx ly hx hy)

instance (c : Int) : Decidable (Codes c) := by unfold Codes; infer_instance
def nxs (o : Int) : Array Value := if o = 1 then nxB else nxA
theorem nxs_ccw : nxs 1 = nxB := if_pos rfl
theorem nxs_cw : nxs (-1) = nxA := if_neg (by decide)
theorem nxs_at (o c : Int) (ho : o = 1 ∨ o = -1) (hc : Codes c) : (nxs o)[c.toNat]? = some (.int .i64 (nextI o c)) := by
  rcases ho with rfl | rfl <;> rcases hc with rfl | rfl | rfl | rfl | rfl | rfl | rfl | rfl <;> rfl
theorem nextI_codes (o c : Int) (ho : o = 1 ∨ o = -1) (hc : Codes c) : Codes (nextI o c) := by
  rcases ho with rfl | rfl <;> rcases hc with rfl | rfl | rfl | rfl | rfl | rfl | rfl | rfl <;> decide
theorem midC_codes (s : Nat) : Codes (midC s) := by
  unfold midC Codes
  (repeat' split) <;> simp
theorem codes_nat {c : Int} (hc : Codes c) : 0 ≤ c ∧ c < 11 ∧ c.toNat < 11 ∧ (c.toNat : Int) = c := by
  unfold Codes at hc; omega
theorem midC_inj {s t : Nat} (h : midC s = midC t) (hs : 1 ≤ s ∧ s ≤ 4) (ht : 1 ≤ t ∧ t ≤ 4) : s = t := by
  have c1 : s = 1 ∨ s = 2 ∨ s = 3 ∨ s = 4 := by omega
  have c2 : t = 1 ∨ t = 2 ∨ t = 3 ∨ t = 4 := by omega
  rcases c1 with rfl | rfl | rfl | rfl <;> rcases c2 with rfl | rfl | rfl | rfl <;> first | rfl | (revert h; decide)
/-- From any code each middle is met within eight. -/
theorem walk_more (o t : Int) (ho : o = 1 ∨ o = -1) (ht : Codes t) : ∀ c, Codes c → ∃ k, k < 8 ∧ (walkB o t 8 c).length = k := by
  intro c hc
  rcases ho with rfl | rfl <;> rcases ht with rfl | rfl | rfl | rfl | rfl | rfl | rfl | rfl <;> rcases hc with rfl | rfl | rfl | rfl | rfl | rfl | rfl | rfl <;> exact ⟨_, by decide, rfl⟩
theorem blk_new' {w : World} {g : Nat} {cs : Array Value} {e : TypeId} (h : g = w.heap.size) : Blk (w.alloc (.cells cs e)) g cs e := h ▸ Blk.new w cs e

theorem hE_dbl {x y : Int} (hx : Sm x) (hy : Sm y) : hE (2 * x, 2 * y) = ptE (x, y) := by
  unfold hE ptE
  unfold Sm at hx hy
  rw [F_H (n := x) (by omega), F_H (n := y) (by omega)]

theorem walkB_stop (o t : Int) (k : Nat) : walkB o t k t = [] := by cases k <;> simp [walkB]
theorem walkB_step (o t c : Int) (k : Nat) (h : c ≠ t) : walkB o t (k + 1) c = c :: walkB o t k (nextI o c) := by rw [walkB, if_neg h]

/-- The walk around the box under way. -/
def WalkAt (o t c0 : Int) (done : List Int) (c : Int) : Prop := walkB o t 8 c0 = done ++ walkB o t (8 - done.length) c ∧ (walkB o t 8 c0).length < 8

theorem WalkAt.next {o t c0 c : Int} {done : List Int} (h : WalkAt o t c0 done c) (hc : c ≠ t) : WalkAt o t c0 (done ++ [c]) (nextI o c) := by
  obtain ⟨h1, h2⟩ := h
  have hl : done.length < 8 := by rw [h1, List.length_append] at h2; omega
  refine ⟨?_, h2⟩
  rw [h1, show 8 - done.length = (8 - (done ++ [c]).length) + 1 by simp; omega, walkB_step _ _ _ _ hc, List.append_assoc]
  rfl
theorem WalkAt.short {o t c0 c : Int} {done : List Int} (h : WalkAt o t c0 done c) : done.length < 8 := by
  obtain ⟨h1, h2⟩ := h
  rw [h1, List.length_append] at h2; omega
theorem WalkAt.stop {o t c0 : Int} {done : List Int} (h : WalkAt o t c0 done t) : walkB o t 8 c0 = done := by
  rw [h.1, walkB_stop, List.append_nil]

theorem own_snoc {w : World} {B : Nat} {T : TypeId} {a : Option Addr} {cap : Nat} {done : List Int} {c : Int} {p0 p1 : Int × Int} {f : Int → Int × Int} {px py : Int} (hp : f c = (px, py))
    (h : w.ownsRow B T 2 (.slice a (2 + done.length + 1) cap) (2 + done.length + 1) (((p0 :: p1 :: done.map f).flatMap hE) ++ [.float .f64 (H px), .float .f64 (H py)])) :
    w.ownsRow B T 2 (.slice a (2 + (done ++ [c]).length) cap) (2 + (done ++ [c]).length) ((p0 :: p1 :: (done ++ [c]).map f).flatMap hE) := by
  have hl : 2 + (done ++ [c]).length = 2 + done.length + 1 := by rw [List.length_append, List.length_singleton]; omega
  have hEQ : (p0 :: p1 :: (done ++ [c]).map f).flatMap hE = ((p0 :: p1 :: done.map f).flatMap hE) ++ [.float .f64 (H px), .float .f64 (H py)] := by
    rw [List.map_append, ← List.cons_append, ← List.cons_append, List.flatMap_append, List.map_singleton, hp, List.flatMap_singleton]
    rfl
  rw [hl, hEQ]
  exact h

theorem own_last {w : World} {B : Nat} {T : TypeId} {a : Option Addr} {cap : Nat} {done : List Int} {p1 : Int × Int} {f : Int → Int × Int} {x1 y1 : Int} (h1 : Sm x1) (h2 : Sm y1)
    (h : w.ownsRow B T 2 (.slice a (2 + done.length + 1) cap) (2 + done.length + 1) ((((2 * x1, 2 * y1) :: p1 :: done.map f).flatMap hE) ++ [.float .f64 (F x1), .float .f64 (F y1)])) :
    w.ownsRow B T 2 (.slice a ((2 * x1, 2 * y1) :: p1 :: done.map f ++ [(2 * x1, 2 * y1)]).length cap) ((2 * x1, 2 * y1) :: p1 :: done.map f ++ [(2 * x1, 2 * y1)]).length (((2 * x1, 2 * y1) :: p1 :: done.map f ++ [(2 * x1, 2 * y1)]).flatMap hE) := by
  have hl : ((2 * x1, 2 * y1) :: p1 :: done.map f ++ [(2 * x1, 2 * y1)]).length = 2 + done.length + 1 := by simp; omega
  have hEQ : ((2 * x1, 2 * y1) :: p1 :: done.map f ++ [(2 * x1, 2 * y1)]).flatMap hE = (((2 * x1, 2 * y1) :: p1 :: done.map f).flatMap hE) ++ [.float .f64 (F x1), .float .f64 (F y1)] := by
    rw [List.flatMap_append, List.flatMap_singleton, hE_dbl h1 h2]
    rfl
  rw [hl, hEQ]
  exact h

theorem own_direct {w : World} {B : Nat} {T : TypeId} {a : Option Addr} {cap : Nat} {XI : List Value} {x1 y1 x2 y2 : Int} (h1 : Sm x1) (h2 : Sm y1) (h3 : Sm x2) (h4 : Sm y2) (hX : XI = [(x1, y1), (x2, y2)].flatMap ptE)
    (h : w.ownsRow B T 2 (.slice a 3 cap) 3 (XI ++ [.float .f64 (F x1), .float .f64 (F y1)])) :
    w.ownsRow B T 2 (.slice a ((2 * x1, 2 * y1) :: (2 * x2, 2 * y2) :: [] ++ [(2 * x1, 2 * y1)]).length cap) ((2 * x1, 2 * y1) :: (2 * x2, 2 * y2) :: [] ++ [(2 * x1, 2 * y1)]).length (((2 * x1, 2 * y1) :: (2 * x2, 2 * y2) :: [] ++ [(2 * x1, 2 * y1)]).flatMap hE) := by
  have hEQ : ((2 * x1, 2 * y1) :: (2 * x2, 2 * y2) :: [] ++ [(2 * x1, 2 * y1)]).flatMap hE = XI ++ [.float .f64 (F x1), .float .f64 (F y1)] := by
    rw [hX]
    simp only [List.cons_append, List.nil_append, List.flatMap_cons, List.flatMap_nil, hE_dbl h1 h2, hE_dbl h3 h4, ptE]
  rw [hEQ]
  exact h

set_option maxRecDepth 100000 in
theorem reverse_any (T : TypeId) (v : Value) (w : World) : Calls Try.prog 52 #[.iface T v] w fun e w' => e = .returned (.iface 127 (.pointer (some ⟨w.heap.size, 0, none⟩))) ∧ w' = w.alloc (.cells #[.iface T v] 129) := by
  go_enter Try.func52, Try.ntmps52
  go_wp2
  go_ret
  exact ⟨rfl, rfl⟩

/-- Two endpoints in an order. -/
theorem two_first {lt : Nat → Nat → Bool} {d' : Array Nat} (h : GoodS lt 0 2 #[0, 1] d') : (lt 0 1 = true → d'[0]! = 0) ∧ (lt 1 0 = true → d'[0]! = 1) := by
  obtain ⟨⟨hs, -, hp⟩, hso⟩ := h
  have hs2 : d'.size = 2 := hs
  have he : (d'.extract 0 2).toList = [d'[0]!, d'[1]!] := by
    apply List.ext_getElem
    · simp; omega
    · intro k h1 h2
      simp at h2
      rcases (by omega : k = 0 ∨ k = 1) with rfl | rfl <;> simp <;> rw [getElem!_pos d' _ (by omega)]
  rw [he] at hp
  have hp : List.Perm [d'[0]!, d'[1]!] [0, 1] := hp
  have hc : (d'[0]! = 0 ∧ d'[1]! = 1) ∨ (d'[0]! = 1 ∧ d'[1]! = 0) := by
    have h0 : d'[0]! ∈ [0, 1] := hp.mem_iff.1 (by simp)
    have h1 : d'[1]! ∈ [0, 1] := hp.mem_iff.1 (by simp)
    have hn := hp.nodup_iff.2 (by decide)
    simp at h0 h1 hn
    omega
  have hq := hso 0 1 (by omega) (by omega) (by omega)
  constructor
  · intro hl
    rcases hc with ⟨h1, h2⟩ | ⟨h1, h2⟩
    · exact h1
    · rw [h1, h2, hl] at hq; cases hq
  · intro hl
    rcases hc with ⟨h1, h2⟩ | ⟨h1, h2⟩
    · rw [h1, h2, hl] at hq; cases hq
    · exact h1

def E2 (E0 E1 : EPt) (e : Nat) : EPt := if e = 0 then E0 else E1
def eb2 (g1 g2 : Nat) (e : Nat) : Nat := if e = 0 then g1 else g2
def Q2 (d : Array Nat) (_ : Nat → Nat) : Prop := ∀ i j, i < 2 → j < 2 → d[i]! = d[j]! → i = j

theorem two_eps (E0 E1 : EPt) (g1 g2 ga sb : Nat) (h0 : E0.ok) (h1 : E1.ok) (hne : E0.pos ≠ E1.pos) (d1 : g1 ≠ g2) (d2 : g1 ≠ ga) (d3 : g2 ≠ ga) (d4 : g1 ≠ sb) (d5 : g2 ≠ sb) (d6 : ga ≠ sb) : EpsG 2 (E2 E0 E1) (eb2 g1 g2) sb ga Q2 where
  hn := by omega
  ok := fun e _ => by unfold E2; split <;> assumption
  pos := fun e e' h1 h2 h3 => by
    have a0 : E2 E0 E1 0 = E0 := rfl
    have a1 : E2 E0 E1 1 = E1 := rfl
    have c : (e = 0 ∧ e' = 1) ∨ (e = 1 ∧ e' = 0) := by omega
    rcases c with ⟨rfl, rfl⟩ | ⟨rfl, rfl⟩
    · rw [a0, a1]; exact hne
    · rw [a0, a1]; exact Ne.symm hne
  ebi := fun e e' h1 h2 h3 => by
    have a0 : eb2 g1 g2 0 = g1 := rfl
    have a1 : eb2 g1 g2 1 = g2 := rfl
    have c : e = e' ∨ (e = 0 ∧ e' = 1) ∨ (e = 1 ∧ e' = 0) := by omega
    rcases c with h | ⟨rfl, rfl⟩ | ⟨rfl, rfl⟩
    · exact h
    · rw [a0, a1] at h3; exact absurd h3 d1
    · rw [a0, a1] at h3; exact absurd h3.symm d1
  ebp := fun e h => by unfold eb2; split <;> assumption
  ebs := fun e h => by unfold eb2; split <;> assumption
  pbs := d6
  inj := fun d oe h i j hi hj => h i j hi hj
  swap := fun d oe i j h hs hd ho hi hj => by
    intro a b ha hb hab
    have hg := fun k => Sort.swp_get d (show i < d.size by omega) (show j < d.size by omega) k
    rw [hg, hg] at hab
    (repeat' split at hab) <;> first
      | omega
      | (have := h _ _ (by omega) (by omega) hab; omega)

theorem two_world {E0 E1 : EPt} {g1 g2 ga sb : Nat} {mv : Value} {te : TypeId} {W : World} (hg1 : Blk W g1 (epC E0 false 0) 108) (hg2 : Blk W g2 (epC E1 false 0) 108) (hga : Blk W ga #[.pointer (some ⟨g1, 0, none⟩), .pointer (some ⟨g2, 0, none⟩)] te)
    (hse : Blk W sb #[mv, .slice (some ⟨ga, 0, none⟩) 2 2] 112) : EpsW 2 (E2 E0 E1) (eb2 g1 g2) sb ga te mv 2 #[] Q2 #[0, 1] W where
  size := rfl
  ids := fun k hk => by rcases (by omega : k = 0 ∨ k = 1) with rfl | rfl <;> decide
  se := hse
  row := by
    have e : (#[0, 1] : Array Nat).map (fun e => Value.pointer (some ⟨eb2 g1 g2 e, 0, none⟩)) ++ #[] = #[.pointer (some ⟨g1, 0, none⟩), .pointer (some ⟨g2, 0, none⟩)] := by simp [eb2]
    rw [e]; exact hga
  eps := ⟨fun _ => 0, fun i j hi hj h => by rcases (by omega : i = 0 ∨ i = 1) with rfl | rfl <;> rcases (by omega : j = 0 ∨ j = 1) with rfl | rfl <;> simp at h ⊢,
    fun e he => ⟨by show 0 < 2; omega, by rcases (by omega : e = 0 ∨ e = 1) with rfl | rfl; exact hg1; exact hg2⟩⟩

theorem two_end {E0 E1 : EPt} {g1 g2 ga sb : Nat} {mv : Value} {te : TypeId} {W : World} {d : Array Nat} (h : EpsW 2 (E2 E0 E1) (eb2 g1 g2) sb ga te mv 2 #[] Q2 d W) (k : Nat) (hd : d[0]! = k) (hk : k < 2) :
    W.cell? ⟨ga, 0, none⟩ = some (.pointer (some ⟨eb2 g1 g2 k, 0, none⟩)) ∧ W.cell? ⟨eb2 g1 g2 k, 2, none⟩ = some (.bool (E2 E0 E1 k).st) := by
  obtain ⟨oe, -, hb⟩ := h.eps
  have r := row_at h.row 0 (by rw [h.size]; omega)
  rw [hd] at r
  exact ⟨r, (hb k hk).2.cell 2⟩

section
variable {E0 E1 : EPt} {g1 g2 ga sb : Nat} {mv : Value} {te : TypeId} {W : World}
theorem two_ccw (h0 : E0.ok) (h1 : E1.ok) (hne : E0.pos ≠ E1.pos) (d1 : g1 ≠ g2) (d2 : g1 ≠ ga) (d3 : g2 ≠ ga) (d4 : g1 ≠ sb) (d5 : g2 ≠ sb) (d6 : ga ≠ sb)
    (hg1 : Blk W g1 (epC E0 false 0) 108) (hg2 : Blk W g2 (epC E1 false 0) 108) (hga : Blk W ga #[.pointer (some ⟨g1, 0, none⟩), .pointer (some ⟨g2, 0, none⟩)] te)
    (hse : Blk W sb #[mv, .slice (some ⟨ga, 0, none⟩) 2 2] 112) :
    Calls Try.prog 51 #[.iface 110 (.pointer (some ⟨sb, 0, none⟩))] W fun e w' => e = .returned (.tuple #[]) ∧ KeepsB (OwnE 2 (eb2 g1 g2) sb ga) W w' ∧
      ∃ gf, w'.cell? ⟨ga, 0, none⟩ = some (.pointer (some ⟨gf, 0, none⟩)) ∧ w'.cell? ⟨gf, 2, none⟩ = some (.bool (if E1.pos < E0.pos then E1.st else E0.st)) := by
  have G := two_eps E0 E1 g1 g2 ga sb h0 h1 hne d1 d2 d3 d4 d5 d6
  refine (sort_any (epsSort G) (ltP_swo _) (by omega) #[0, 1] W (two_world hg1 hg2 hga hse)).mono ?_
  rintro e w' ⟨rfl, d', hg, hR, hk⟩
  have hf := two_first hg
  refine ⟨rfl, hk, ?_⟩
  by_cases hp : E1.pos < E0.pos
  · rw [if_pos hp]
    have := two_end hR 1 (hf.2 (decide_eq_true hp)) (by omega)
    exact ⟨_, this⟩
  · rw [if_neg hp]
    have := two_end hR 0 (hf.1 (decide_eq_true (show E0.pos < E1.pos by omega))) (by omega)
    exact ⟨_, this⟩

theorem two_cw (rb : Nat) (hrb : Blk W rb #[.iface 110 (.pointer (some ⟨sb, 0, none⟩))] 129) (r1 : rb ≠ sb) (r2 : rb ≠ ga) (r3 : rb ≠ g1) (r4 : rb ≠ g2) (h0 : E0.ok) (h1 : E1.ok) (hne : E0.pos ≠ E1.pos) (d1 : g1 ≠ g2) (d2 : g1 ≠ ga) (d3 : g2 ≠ ga) (d4 : g1 ≠ sb) (d5 : g2 ≠ sb) (d6 : ga ≠ sb)
    (hg1 : Blk W g1 (epC E0 false 0) 108) (hg2 : Blk W g2 (epC E1 false 0) 108) (hga : Blk W ga #[.pointer (some ⟨g1, 0, none⟩), .pointer (some ⟨g2, 0, none⟩)] te)
    (hse : Blk W sb #[mv, .slice (some ⟨ga, 0, none⟩) 2 2] 112) :
    Calls Try.prog 51 #[.iface 127 (.pointer (some ⟨rb, 0, none⟩))] W fun e w' => e = .returned (.tuple #[]) ∧ KeepsB (fun b => OwnE 2 (eb2 g1 g2) sb ga b ∨ b = rb) W w' ∧
      ∃ gf, w'.cell? ⟨ga, 0, none⟩ = some (.pointer (some ⟨gf, 0, none⟩)) ∧ w'.cell? ⟨gf, 2, none⟩ = some (.bool (if E0.pos < E1.pos then E1.st else E0.st)) := by
  have G := two_eps E0 E1 g1 g2 ga sb h0 h1 hne d1 d2 d3 d4 d5 d6
  refine (sort_any (epsRev G rb r1 r2 (fun e he => by unfold eb2; split <;> assumption)) (gtP_swo _) (by omega) #[0, 1] W ⟨two_world hg1 hg2 hga hse, hrb⟩).mono ?_
  rintro e w' ⟨rfl, d', hg, hR, hk⟩
  have hf := two_first hg
  refine ⟨rfl, hk, ?_⟩
  by_cases hp : E0.pos < E1.pos
  · rw [if_pos hp]
    have := two_end hR.1 1 (hf.2 (decide_eq_true hp)) (by omega)
    exact ⟨_, this⟩
  · rw [if_neg hp]
    have := two_end hR.1 0 (hf.1 (decide_eq_true (show E1.pos < E0.pos by omega))) (by omega)
    exact ⟨_, this⟩
end
end Go.Proofs.Ytafanlbfbfbeoaa
