/- Slices that a call has made, read element by element, and grown by one element. -/
import Derived.Test.YtafanlbfbfbeoaaFw
import Derived.Deep.AppendLies
namespace Go.Proofs.Ytafanlbfbfbeoaa
open Go.RowKit

def spotE (p : Int × Int) : List Value := [.int .i64 p.1, .int .i64 p.2]
def ptE (p : Int × Int) : List Value := [.float .f64 (F p.1), .float .f64 (F p.2)]
def stepE (p : (Int × Int) × (Int × Int)) : List Value := [.int .i64 p.1.1, .int .i64 p.1.2, .int .i64 p.2.1, .int .i64 p.2.2]

theorem flat_get {α : Type} (enc : α → List Value) (s : Nat) (hs : ∀ p, (enc p).length = s) : ∀ (ps : List α) (k : Nat) (hk : k < ps.length) (j : Nat), j < s → (ps.flatMap enc)[k * s + j]? = (enc ps[k])[j]? := by
  intro ps
  induction ps with
  | nil => intro k hk; simp at hk
  | cons p ps ih =>
    intro k hk j hj
    rw [List.flatMap_cons]
    cases k with
    | zero => rw [List.getElem?_append_left (by rw [hs]; omega)]; simp
    | succ k =>
      rw [List.getElem?_append_right (by rw [hs, Nat.add_mul]; omega), hs]
      have : (k + 1) * s + j - s = k * s + j := by rw [Nat.add_mul]; omega
      rw [this, ih k (by simpa using hk) j hj]; rfl

theorem flat_len {α : Type} (enc : α → List Value) (s : Nat) (hs : ∀ p, (enc p).length = s) (ps : List α) : (ps.flatMap enc).length = ps.length * s := by
  induction ps with
  | nil => simp
  | cons p ps ih => rw [List.flatMap_cons, List.length_append, ih, hs, List.length_cons, Nat.add_mul]; omega

theorem cells_block {w : World} {g : Nat} {cur : Array Value} {e : TypeId} (h : w.heap[g]? = some (.cells cur e (0, 0))) (o : Nat) : w.cell? ⟨g, o, none⟩ = cur[o]? :=
  cell_of_row w g o cur e (0, 0) h

/-- What is owned, read. -/
theorem row_read {w : World} {B : Nat} {e : TypeId} {s : Nat} {ao : Option Addr} {n cap : Nat} {xs : List Value} (h : w.ownsRow B e s (.slice ao n cap) n xs) :
    ∃ g, (0 < n → ao = some ⟨g, 0, none⟩ ∧ g < w.heap.size ∧ B ≤ g) ∧ ∀ o, o < n * s → w.cell? ⟨g, o, none⟩ = xs[o]? := by
  rcases h.2 with ⟨h0, h1⟩ | ⟨g, cap', cur, hv, hb, hg, hn, hcap, hsz, htake⟩
  · cases h0
    exact ⟨0, fun h => by omega, fun o ho => by omega⟩
  · cases hv
    refine ⟨g, fun _ => ⟨rfl, ?_, hb⟩, fun o ho => ?_⟩
    · rcases Nat.lt_or_ge g w.heap.size with hlt | hge
      · exact hlt
      · rw [Array.getElem?_eq_none hge] at hg; cases hg
    · rw [cells_block hg, ← htake, List.getElem?_take, if_pos ho]; simp

theorem row_read_flat {α : Type} {w : World} {B : Nat} {e : TypeId} {s : Nat} {ao : Option Addr} {cap : Nat} (enc : α → List Value) (hs : ∀ p, (enc p).length = s) (ps : List α)
    (h : w.ownsRow B e s (.slice ao ps.length cap) ps.length (ps.flatMap enc)) :
    ∃ g, (0 < ps.length → ao = some ⟨g, 0, none⟩ ∧ g < w.heap.size ∧ B ≤ g) ∧ ∀ k (hk : k < ps.length) j, j < s → w.cell? ⟨g, k * s + j, none⟩ = (enc ps[k])[j]? := by
  obtain ⟨g, h1, h2⟩ := row_read h
  refine ⟨g, h1, fun k hk j hj => ?_⟩
  have hlt : k * s + j < ps.length * s := by
    have h3 : (k + 1) * s ≤ ps.length * s := Nat.mul_le_mul_right _ hk
    rw [Nat.add_mul] at h3; omega
  rw [h2 _ hlt, flat_get enc s hs ps k hk j hj]

theorem spots_read {w : World} {B : Nat} {ao : Option Addr} {cap : Nat} {e : TypeId} {ps : List (Int × Int)} (h : w.ownsRow B e 2 (.slice ao ps.length cap) ps.length (ps.flatMap spotE)) :
    ∃ g, (0 < ps.length → ao = some ⟨g, 0, none⟩ ∧ g < w.heap.size ∧ B ≤ g) ∧ ∀ k (hk : k < ps.length), w.cell? ⟨g, k * 2, none⟩ = some (.int .i64 ps[k].1) ∧ w.cell? ⟨g, k * 2 + 1, none⟩ = some (.int .i64 ps[k].2) := by
  obtain ⟨g, h1, h2⟩ := row_read_flat spotE (fun _ => rfl) ps h
  exact ⟨g, h1, fun k hk => ⟨h2 k hk 0 (by omega), h2 k hk 1 (by omega)⟩⟩

theorem pts_read {w : World} {B : Nat} {ao : Option Addr} {cap : Nat} {e : TypeId} {ps : List (Int × Int)} (h : w.ownsRow B e 2 (.slice ao ps.length cap) ps.length (ps.flatMap ptE)) :
    ∃ g, (0 < ps.length → ao = some ⟨g, 0, none⟩ ∧ g < w.heap.size ∧ B ≤ g) ∧ ∀ k (hk : k < ps.length), w.cell? ⟨g, k * 2, none⟩ = some (.float .f64 (F ps[k].1)) ∧ w.cell? ⟨g, k * 2 + 1, none⟩ = some (.float .f64 (F ps[k].2)) := by
  obtain ⟨g, h1, h2⟩ := row_read_flat ptE (fun _ => rfl) ps h
  exact ⟨g, h1, fun k hk => ⟨h2 k hk 0 (by omega), h2 k hk 1 (by omega)⟩⟩

theorem steps_read {w : World} {B : Nat} {ao : Option Addr} {cap : Nat} {e : TypeId} {ps : List ((Int × Int) × (Int × Int))} (h : w.ownsRow B e 4 (.slice ao ps.length cap) ps.length (ps.flatMap stepE)) :
    ∃ g, (0 < ps.length → ao = some ⟨g, 0, none⟩ ∧ g < w.heap.size ∧ B ≤ g) ∧ ∀ k (hk : k < ps.length), w.cell? ⟨g, k * 4, none⟩ = some (.int .i64 ps[k].1.1) ∧ w.cell? ⟨g, k * 4 + 1, none⟩ = some (.int .i64 ps[k].1.2) ∧
      w.cell? ⟨g, k * 4 + 2, none⟩ = some (.int .i64 ps[k].2.1) ∧ w.cell? ⟨g, k * 4 + 3, none⟩ = some (.int .i64 ps[k].2.2) := by
  obtain ⟨g, h1, h2⟩ := row_read_flat stepE (fun _ => rfl) ps h
  exact ⟨g, h1, fun k hk => ⟨h2 k hk 0 (by omega), h2 k hk 1 (by omega), h2 k hk 2 (by omega), h2 k hk 3 (by omega)⟩⟩

theorem vals_read {w : World} {B : Nat} {ao : Option Addr} {cap : Nat} {e : TypeId} {vs : List Value} (h : w.ownsRow B e 1 (.slice ao vs.length cap) vs.length vs) :
    ∃ g, (0 < vs.length → ao = some ⟨g, 0, none⟩ ∧ g < w.heap.size ∧ B ≤ g) ∧ ∀ k (hk : k < vs.length), w.cell? ⟨g, k, none⟩ = some vs[k] := by
  obtain ⟨g, h1, h2⟩ := row_read h
  refine ⟨g, h1, fun k hk => ?_⟩
  rw [h2 k (by omega)]; simp [hk]

/-- A row that was owned is owned in a world that is as it was below its size. -/
theorem own_below {w w' : World} {B C : Nat} {e : TypeId} {s : Nat} {v : Value} {n : Nat} {xs : List Value} (h : w.ownsRow B e s v n xs) (hb : Below C w w') (hC : w.heap.size ≤ C) : w'.ownsRow B e s v n xs := by
  refine ⟨h.1, ?_⟩
  rcases h.2 with hn | ⟨g, cap, cur, hv, hb', hg, rest⟩
  · exact .inl hn
  · have hlt : g < w.heap.size := by
      rcases Nat.lt_or_ge g w.heap.size with hlt | hge
      · exact hlt
      · rw [Array.getElem?_eq_none hge] at hg; cases hg
    exact .inr ⟨g, cap, cur, hv, hb', by rw [hb.block g (by omega)]; exact hg, rest⟩

theorem own_mono {w : World} {B B' : Nat} {e : TypeId} {s : Nat} {v : Value} {n : Nat} {xs : List Value} (h : w.ownsRow B e s v n xs) (hB : B' ≤ B) : w.ownsRow B' e s v n xs := by
  refine ⟨h.1, ?_⟩
  rcases h.2 with hn | ⟨g, cap, cur, hv, hb', rest⟩
  · exact .inl hn
  · exact .inr ⟨g, cap, cur, hv, by omega, rest⟩

theorem own_form {w : World} {B : Nat} {e : TypeId} {s : Nat} {v : Value} {n : Nat} {xs : List Value} (h : w.ownsRow B e s v n xs) : ∃ ao cap, v = .slice ao n cap := by
  rcases h.2 with ⟨hv, h0⟩ | ⟨g, cap, cur, hv, rest⟩
  · exact ⟨none, 0, by rw [hv, h0]⟩
  · exact ⟨_, cap, hv⟩

/-- 'make', or a literal, of elements that are known. -/
theorem own_new (w : World) (B : Nat) (hB : B ≤ w.heap.size) (e : TypeId) (s n : Nat) (xs : List Value) (hl : xs.length = n * s) (hn : n ≤ 1000000) :
    (w.alloc (.cells xs.toArray e)).ownsRow B e s (.slice (some ⟨w.heap.size, 0, none⟩) n n) n xs := by
  refine ⟨hl, .inr ⟨w.heap.size, n, xs.toArray, rfl, hB, heap_alloc_new w _, Nat.le_refl _, by unfold maxLen; omega, by simpa using hl, ?_⟩⟩
  simp [← hl]

theorem below_alloc {B : Nat} {W w : World} (h : Below B W w) (o : Obj) (hB : B ≤ W.heap.size) : Below B W (w.alloc o) := h.alloc (Nat.le_trans hB h.size) o

/-- A block that is known whole. -/
def Blk (w : World) (b : Nat) (cs : Array Value) (e : TypeId) : Prop := w.heap[b]? = some (.cells cs e (0, 0))

theorem Blk.lt {w : World} {b : Nat} {cs : Array Value} {e : TypeId} (h : Blk w b cs e) : b < w.heap.size := by
  rcases Nat.lt_or_ge b w.heap.size with hlt | hge
  · exact hlt
  · unfold Blk at h; rw [Array.getElem?_eq_none hge] at h; cases h

theorem Blk.cell {w : World} {b : Nat} {cs : Array Value} {e : TypeId} (h : Blk w b cs e) (o : Nat) : w.cell? ⟨b, o, none⟩ = cs[o]? := cells_block h o

theorem Blk.frozen {w : World} {b : Nat} {cs : Array Value} {e : TypeId} (h : Blk w b cs e) (o : Nat) : w.frozen? ⟨b, o, none⟩ = false := by
  unfold Blk at h
  simp [World.frozen?, h]

theorem Blk.new (w : World) (cs : Array Value) (e : TypeId) : Blk (w.alloc (.cells cs e)) w.heap.size cs e := heap_alloc_new w _

theorem Blk.alloc {w : World} {b : Nat} {cs : Array Value} {e : TypeId} (h : Blk w b cs e) (o : Obj) : Blk (w.alloc o) b cs e :=
  (Below.heap_alloc w o b h.lt).trans h

theorem Blk.drew {w : World} {b : Nat} {cs : Array Value} {e : TypeId} (h : Blk w b cs e) : Blk w.drew b cs e := h

theorem Blk.below {w w' : World} {b C : Nat} {cs : Array Value} {e : TypeId} (h : Blk w b cs e) (hb : Below C w w') (hC : b < C) : Blk w' b cs e := (hb.block b hC).trans h

theorem Blk.grown {w w' : World} {b : Nat} {cs : Array Value} {e : TypeId} {row : Option Nat} (h : Blk w b cs e) (hg : w.grownBy w' row) (hne : some b ≠ row) : Blk w' b cs e := (hg.block b h.lt hne).trans h

theorem Blk.set {w : World} {b : Nat} {cs : Array Value} {e : TypeId} (h : Blk w b cs e) (o : Nat) (v : Value) : Blk (w.setCell ⟨b, o, none⟩ v) b (cs.setIfInBounds o v) e := by
  have hlt := h.lt
  have h' : w.heap[b] = .cells cs e (0, 0) := by unfold Blk at h; simpa [Array.getElem?_eq_getElem hlt] using h
  show (w.heap.modify b _)[b]? = _
  rw [Array.getElem?_eq_getElem (by simpa using hlt), Array.getElem_modify_self, h']
  simp

theorem Blk.setOther {w : World} {b : Nat} {cs : Array Value} {e : TypeId} (h : Blk w b cs e) (a : Addr) (hne : b ≠ a.block) (v : Value) : Blk (w.setCell a v) b cs e :=
  (Below.heap_setCell w a v b hne).trans h

/-- A store into a block that is no part of the row. -/
theorem own_setOther {w : World} {B : Nat} {e : TypeId} {s : Nat} {v : Value} {n : Nat} {xs : List Value} (h : w.ownsRow B e s v n xs) (a : Addr) (ha : a.block < B) (u : Value) : (w.setCell a u).ownsRow B e s v n xs :=
  ownsRow_setCell_below h ha u

/-- 'out = append(out, x)': x one element, laid in the block that is the last. -/
theorem wpList_push {P : Program} {ops : Array Oper} {rest : List Oper} {o : Oper} {a : Act} {Q : Exit → Act → World → Prop} (hgd : o.guard = none) (s x : Operand) (t : TypeId)
    (ho : o.op = .call { callee := .builtin .append, args := #[s, x], argTypes := #[t, t] })
    (e : TypeId) (i : TypeInfo) (z : Value) (size bytes : Nat) (ht : P.underlying t = some (.slice e)) (hi : P.info? e = some i) (hz : i.zero = some z)
    (hsize : i.size = size) (hby : i.bytes = bytes) (hzs : z.cells.size = size) (hsz : 0 < size) (hbs : bytes ≤ 1000)
    (W w0 : World) (B : Nat) (v : Value) (n : Nat) (xs : List Value) (hs : a.eval s = v) (hown : w0.ownsRow B e size v n xs) (C : Nat) (hbel : Below C W w0) (hCB : C ≤ B) (hBs : B ≤ w0.heap.size) (hn : n ≤ 1000000000)
    (news : List Value) (e' : TypeId) (G : Nat) (hG : w0.heap.size = G) (c : Nat) (hx : a.eval x = .slice (some ⟨G, 0, none⟩) 1 c) (hl : news.length = size) (h1 : ∀ u ∈ news, u.oneCell' = true)
    (h : ∀ g cap w', w'.ownsRow B e size (.slice (some ⟨g, 0, none⟩) (n + 1) cap) (n + 1) (xs ++ news) → Below C W w' → w0.heap.size < w'.heap.size →
      (w0.alloc (.cells news.toArray e')).grownBy w' v.ownBlock → (v.ownBlock = some g ∨ g = G + 1) → g < w'.heap.size → wpList P ops Q rest (a.put o.dst (.slice (some ⟨g, 0, none⟩) (n + 1) cap)) w') :
    wpList P ops Q (o :: rest) a (w0.alloc (.cells news.toArray e')) := by
  subst hG
  refine wpList_append_lies _ hgd s x t ho B e i z size bytes ht hi hz hsize hby hzs hsz v n xs hs (hown.alloc _) ⟨w0.heap.size, 0, none⟩ 1 c news hx (by omega) ?_ h1 (by omega) (by unfold maxLen; omega) ?_ (by simp; omega) (w0.heap.size + 1) (by simp) ?_
  · intro j u hj
    have hadd : (⟨w0.heap.size, 0, none⟩ : Addr).add j = ⟨w0.heap.size, j, none⟩ := by unfold Addr.add; split <;> simp_all
    rw [hadd, cells_block (heap_alloc_new w0 _)]
    simpa using hj
  · have h2 : (n + 1) * bytes ≤ (n + 1) * 1000 := Nat.mul_le_mul_left _ hbs
    omega
  · intro g cap w' ho1 hg1 hat hlt
    refine h g cap w' ho1 ?_ ?_ hg1 hat hlt
    · refine (hbel.alloc (by omega) _).grown hg1 (by simp; omega) fun k hk => Nat.le_trans hCB (hown.lt k hk).1
    · have := hg1.size; simp at this; omega
end Go.Proofs.Ytafanlbfbfbeoaa
