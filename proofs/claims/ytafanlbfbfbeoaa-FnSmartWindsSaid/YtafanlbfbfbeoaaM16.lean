/- What the proofs over smartclip lean on, part 17 of 48. -/
import Derived.Test.YtafanlbfbfbeoaaM12
import Derived.Test.YtafanlbfbfbeoaaM13
import Derived.Test.YtafanlbfbfbeoaaM14
import Derived.Test.YtafanlbfbfbeoaaM15
import Derived.Test.YtafanlbfbfbeoaaM08

/- Endpoints as what the sort is handed. -/
namespace Go.Proofs.Ytafanlbfbfbeoaa
open Go.RowKit

/-- Where the order of the endpoints stands: their own blocks. -/
def OwnE (n : Nat) (eb : Nat → Nat) (sb pb : Nat) (b : Nat) : Prop := b = sb ∨ b = pb ∨ ∃ e, e < n ∧ b = eb e

theorem KeepsB.set {own : Nat → Prop} {W w : World} (h : KeepsB own W w) (a : Addr) (ha : own a.block) (v : Value) : KeepsB own W (w.setCell a v) :=
  ⟨h.os, h.tape, h.output, by have := h.size; simpa [World.setCell] using this, fun b hb hl => (Below.heap_setCell w a v b (fun e => hb (e ▸ ha))).trans (h.block b hb hl)⟩
theorem KeepsB.drew {own : Nat → Prop} {W w : World} (h : KeepsB own W w) : KeepsB own W w.drew := ⟨h.os, h.tape, h.output, h.size, h.block⟩

/-- What is known of the endpoints, once for all orders. -/
structure EpsG (n : Nat) (E : Nat → EPt) (eb : Nat → Nat) (sb pb : Nat) (Q : Array Nat → (Nat → Nat) → Prop) : Prop where
  hn : n ≤ 255
  ok : ∀ e, e < n → (E e).ok
  pos : ∀ e e', e < n → e' < n → e ≠ e' → (E e).pos ≠ (E e').pos
  ebi : ∀ e e', e < n → e' < n → eb e = eb e' → e = e'
  ebp : ∀ e, e < n → eb e ≠ pb
  ebs : ∀ e, e < n → eb e ≠ sb
  pbs : pb ≠ sb
  inj : ∀ d oe, Q d oe → ∀ i j, i < n → j < n → d[i]! = d[j]! → i = j
  swap : ∀ d oe i j, Q d oe → d.size = n → (∀ k, k < n → d[k]! < n) → (∀ e, e < n → oe e < n) → i < n → j < n → Q (Sort.swp d i j) (fun e => if e = d[oe d[j]!]! then i else if e = d[oe d[i]!]! then j else oe e)

section
variable {n : Nat} {E : Nat → EPt} {eb : Nat → Nat} {sb pb : Nat} {te : TypeId} {mv : Value} {cap : Nat} {tl : Array Value} {Q : Array Nat → (Nat → Nat) → Prop} {d : Array Nat}

theorem epC_set (E : EPt) (u : Bool) (o o' : Nat) : (epC E u o).setIfInBounds 6 (.int .i64 o') = epC E u o' := rfl

theorem row_swap (d : Array Nat) (f : Nat → Value) (tl : Array Value) (i j : Nat) (hi : i < d.size) (hj : j < d.size) :
    ((d.map f ++ tl).setIfInBounds i (f d[j]!)).setIfInBounds j (f d[i]!) = (Sort.swp d i j).map f ++ tl := by
  have hA : ∀ (d : Array Nat) (k : Nat), k < d.size → (d.map f ++ tl)[k]? = some (f d[k]!) := by
    intro d k hk
    rw [Array.getElem?_append_left (by simpa using hk), Array.getElem?_map, Array.getElem?_eq_getElem hk, getElem!_pos d k hk]
    rfl
  have hB : ∀ (d : Array Nat) (k : Nat), ¬ k < d.size → (d.map f ++ tl)[k]? = tl[k - d.size]? := by
    intro d k hk
    rw [Array.getElem?_append_right (by simpa using hk)]
    simp
  apply Array.ext_getElem?
  intro k
  rw [Array.getElem?_setIfInBounds, Array.getElem?_setIfInBounds]
  simp only [Array.size_setIfInBounds, Array.size_append, Array.size_map]
  have hs := Sort.size_swp d i j
  by_cases hkj : j = k
  · subst hkj
    rw [if_pos rfl, if_pos (by omega), hA _ _ (by omega), Sort.swp_right _ _ _ hj]
  · rw [if_neg hkj]
    by_cases hki : i = k
    · subst hki
      rw [if_pos rfl, if_pos (by omega), hA _ _ (by omega), Sort.swp_left _ _ _ hi (Ne.symm hkj)]
    · rw [if_neg hki]
      by_cases hk : k < d.size
      · rw [hA _ _ hk, hA _ _ (by omega), Sort.swp_other _ _ _ _ (Ne.symm hki) (Ne.symm hkj)]
      · rw [hB _ _ hk, hB _ _ (by omega), hs]

theorem swp_ids (h : d.size = n) (hd : ∀ k, k < n → d[k]! < n) (i j : Nat) (hi : i < n) (hj : j < n) : ∀ k, k < n → (Sort.swp d i j)[k]! < n := by
  intro k hk
  by_cases hkj : k = j
  · subst hkj; rw [Sort.swp_right _ _ _ (by omega)]; exact hd _ hi
  · by_cases hki : k = i
    · subst hki; rw [Sort.swp_left _ _ _ (by omega) hkj]; exact hd _ hj
    · rw [Sort.swp_other _ _ _ _ hki hkj]; exact hd _ hk

set_option maxRecDepth 100000 in
theorem epsSwap_any (G : EpsG n E eb sb pb Q) (W : World) (h : EpsW n E eb sb pb te mv cap tl Q d W) (i j : Nat) (hi : i < n) (hj : j < n) :
    Calls Try.prog 111 #[.pointer (some ⟨sb, 0, none⟩), .int .i64 i, .int .i64 j] W fun e w' => e = .returned (.tuple #[]) ∧ EpsW n E eb sb pb te mv cap tl Q (Sort.swp d i j) w' ∧ KeepsB (OwnE n eb sb pb) W w' := by
  obtain ⟨oe, hQ, hb⟩ := h.eps
  have hsz := h.size
  have hda := h.ids i hi
  have hdb := h.ids j hj
  have hx := (hb _ hda).1
  have hy := (hb _ hdb).1
  have hdp := h.ids _ hx
  have hdq := h.ids _ hy
  have ba := (hb _ hda).2
  have bb := (hb _ hdb).2
  have bp := (hb _ hdp).2
  have bq := (hb _ hdq).2
  have r1 := row_at h.row i (by omega)
  have r2 := row_at h.row j (by omega)
  have rx := row_at h.row (oe d[i]!) (by omega)
  have ry := row_at h.row (oe d[j]!) (by omega)
  -- what all three cases come to
  have END : ∀ w', w' = ((((W.setCell ⟨eb d[oe d[i]!]!, 6, none⟩ (.int .i64 j)).setCell ⟨eb d[oe d[j]!]!, 6, none⟩ (.int .i64 i)).setCell ⟨pb, i, none⟩ (.pointer (some ⟨eb d[j]!, 0, none⟩))).setCell ⟨pb, j, none⟩ (.pointer (some ⟨eb d[i]!, 0, none⟩))).drew.drew →
      EpsW n E eb sb pb te mv cap tl Q (Sort.swp d i j) w' ∧ KeepsB (OwnE n eb sb pb) W w' := by
    rintro w' rfl
    refine ⟨⟨by rw [Sort.size_swp]; exact hsz, swp_ids hsz h.ids i j hi hj, ?_, ?_, _, G.swap d oe i j hQ hsz h.ids (fun e he => (hb e he).1) hi hj, ?_⟩, ?_⟩
    · exact (((((h.se.setOther _ (fun e => G.ebs _ hdp e.symm) _).setOther _ (fun e => G.ebs _ hdq e.symm) _).setOther _ (fun e => G.pbs e.symm) _).setOther _ (fun e => G.pbs e.symm) _).drew).drew
    · rw [← row_swap d _ tl i j (by omega) (by omega)]
      exact (((((h.row.setOther _ (fun e => G.ebp _ hdp e.symm) _).setOther _ (fun e => G.ebp _ hdq e.symm) _).set i _).set j _).drew).drew
    · intro e he
      have hbe := (hb e he).2
      by_cases hq : e = d[oe d[j]!]!
      · refine ⟨by rw [if_pos hq]; exact hi, ?_⟩
        rw [if_pos hq]
        have h1 : ∃ o, Blk (W.setCell ⟨eb d[oe d[i]!]!, 6, none⟩ (.int .i64 j)) (eb e) (epC (E e) false o) 108 := by
          by_cases hp : e = d[oe d[i]!]!
          · rw [← hp]
            have := hbe.set 6 (.int .i64 j)
            rw [epC_set] at this
            exact ⟨_, this⟩
          · exact ⟨_, hbe.setOther _ (fun e' => hp (G.ebi _ _ he hdp e')) _⟩
        obtain ⟨o, h1⟩ := h1
        rw [← hq]
        have h2 := h1.set 6 (.int .i64 i)
        rw [epC_set] at h2
        exact (((h2.setOther _ (G.ebp _ he) _).setOther _ (G.ebp _ he) _).drew).drew
      · rw [if_neg hq]
        have hnq : eb e ≠ eb d[oe d[j]!]! := fun e' => hq (G.ebi _ _ he hdq e')
        by_cases hp : e = d[oe d[i]!]!
        · rw [if_pos hp]
          refine ⟨hj, ?_⟩
          rw [← hp]
          have h1 := hbe.set 6 (.int .i64 j)
          rw [epC_set] at h1
          exact ((((h1.setOther _ hnq _).setOther _ (G.ebp _ he) _).setOther _ (G.ebp _ he) _).drew).drew
        · rw [if_neg hp]
          refine ⟨(hb e he).1, ?_⟩
          exact (((((hbe.setOther _ (fun e' => hp (G.ebi _ _ he hdp e')) _).setOther _ hnq _).setOther _ (G.ebp _ he) _).setOther _ (G.ebp _ he) _).drew).drew
    · have o1 : OwnE n eb sb pb (eb d[oe d[i]!]!) := .inr (.inr ⟨_, hdp, rfl⟩)
      have o2 : OwnE n eb sb pb (eb d[oe d[j]!]!) := .inr (.inr ⟨_, hdq, rfl⟩)
      have o3 : OwnE n eb sb pb pb := .inr (.inl rfl)
      exact ((((((KeepsB.refl _ W).set _ o1 _).set _ o2 _).set _ o3 _).set _ o3 _).drew).drew
  have n1 := G.ebp _ hdp; have n2 := G.ebp _ hdq; have n3 := G.ebs _ hdp; have n4 := G.ebs _ hdq
  by_cases hij : i = j
  · subst hij
    exact (swap_self W sb pb n cap _ _ i _ _ _ te mv hi hi hx hy G.hn h.se h.row r1 r2 rx ry (ba.cell 6) (bb.cell 6) bp bq _ _ (bp.cell 6) (bq.cell 6) n1 n2 n3 n4 G.pbs).mono fun e w' hw => ⟨hw.1, END _ hw.2⟩
  · by_cases hpq : eb d[oe d[i]!]! = eb d[oe d[j]!]!
    · have hpe := G.ebi _ _ hdp hdq hpq
      have hxy := G.inj d oe hQ _ _ hx hy hpe
      rw [← hxy] at ry END
      have hbb : W.cell? ⟨eb d[j]!, 6, none⟩ = some (.int .i64 (oe d[i]!)) := by rw [hxy]; exact bb.cell 6
      exact (swap_mate W sb pb n cap _ _ _ i j _ _ _ te mv hi hj hx hx G.hn h.se h.row r1 r2 rx ry (ba.cell 6) hbb bp bp _ _ (bp.cell 6) (bp.cell 6) hij (Ne.symm hij) n1 n1 n3 n3 G.pbs).mono fun e w' hw => ⟨hw.1, END _ hw.2⟩
    · exact (swap_apart W sb pb n cap _ _ _ _ i j _ _ _ _ _ te mv hi hj hx hy G.hn h.se h.row r1 r2 rx ry (ba.cell 6) (bb.cell 6) bp bq _ _ (bp.cell 6) (bq.cell 6) hpq hij (Ne.symm hij) n1 n2 n3 n4 G.pbs).mono fun e w' hw => ⟨hw.1, END _ hw.2⟩

def ltP (E : Nat → EPt) (a b : Nat) : Bool := decide ((E a).pos < (E b).pos)
theorem ltP_swo (E : Nat → EPt) : Sort.SWO (ltP E) := ⟨fun x => by simp [ltP], fun x y z => by simp only [ltP, decide_eq_true_eq]; omega, fun x y z => by simp only [ltP, decide_eq_false_iff_not]; omega⟩
def gtP (E : Nat → EPt) (a b : Nat) : Bool := decide ((E b).pos < (E a).pos)
theorem gtP_swo (E : Nat → EPt) : Sort.SWO (gtP E) := ⟨fun x => by simp [gtP], fun x y z => by simp only [gtP, decide_eq_true_eq]; omega, fun x y z => by simp only [gtP, decide_eq_false_iff_not]; omega⟩

theorem EpsW.stay {W W' : World} (h : EpsW n E eb sb pb te mv cap tl Q d W) (hk : ∀ b, OwnE n eb sb pb b → W'.heap[b]? = W.heap[b]?) : EpsW n E eb sb pb te mv cap tl Q d W' := by
  obtain ⟨oe, hQ, hb⟩ := h.eps
  exact ⟨h.size, h.ids, (hk _ (.inl rfl)).trans h.se, (hk _ (.inr (.inl rfl))).trans h.row, oe, hQ, fun e he => ⟨(hb e he).1, (hk _ (.inr (.inr ⟨e, he, rfl⟩))).trans (hb e he).2⟩⟩

theorem EpsW.low {W : World} (h : EpsW n E eb sb pb te mv cap tl Q d W) (b : Nat) (hb : OwnE n eb sb pb b) : b < W.heap.size := by
  obtain ⟨oe, -, he⟩ := h.eps
  rcases hb with rfl | rfl | ⟨e, h1, rfl⟩
  · exact h.se.lt
  · exact h.row.lt
  · exact (he e h1).2.lt

set_option maxRecDepth 100000 in
/-- The endpoints themselves. -/
theorem epsSort (G : EpsG n E eb sb pb Q) : SortI 110 (.pointer (some ⟨sb, 0, none⟩)) 109 110 111 (.pointer (some ⟨sb, 0, none⟩)) (.pointer (some ⟨sb, 0, none⟩)) (.pointer (some ⟨sb, 0, none⟩)) (ltP E) n (OwnE n eb sb pb) (EpsW n E eb sb pb te mv cap tl Q) (fun _ => True) where
  rw := fun _ => trivial
  size := fun h => h.size
  low := fun h => h.low
  stay := fun h _ hk => h.stay hk
  mn := fun W _ => rfl
  ml := fun W _ => rfl
  ms := fun W _ => rfl
  en := fun _ _ => rfl
  el := fun _ _ => rfl
  es := fun _ _ => rfl
  len := fun {d W} h => epsLen_any W h
  less := fun {d W} h i j hi hj hij => by
    obtain ⟨oe, hQ, -⟩ := h.eps
    exact epsLess_any W h i j hi hj (G.ok _ (h.ids i hi)) (G.ok _ (h.ids j hj)) (G.pos _ _ (h.ids i hi) (h.ids j hj) (fun e => hij (G.inj d oe hQ i j hi hj e))) G.hn
  swap := fun {d W} h i j hi hj => epsSwap_any G W h i j hi hj
end
end Go.Proofs.Ytafanlbfbfbeoaa

/- The order turned around. -/
namespace Go.Proofs.Ytafanlbfbfbeoaa
open Go.RowKit

set_option maxRecDepth 100000 in
theorem rev_len (p : Addr) (T' : TypeId) (v' : Value) (W : World) (h : W.cell? p = some (.iface T' v')) :
    Sem.run Try.prog (method 276 127 (.pointer (some p)) "Len") W = Sem.run Try.prog (method (276 - 1) T' v' "Len") W := by
  have : Sem.run Try.prog (method 276 127 (.pointer (some p)) "Len") W = Sem.run Try.prog (do
    match ← (loadVar 114 p) with
    | .iface t' v' => method (276 - 1) t' v' "Len"
    | .nilIface => runtimePanic .nilDeref
    | _ => stuck "method row: interface value expected") W := rfl
  rw [this]
  go_simp

set_option maxRecDepth 100000 in
theorem rev_swap (p : Addr) (T' : TypeId) (v' : Value) (W : World) (h : W.cell? p = some (.iface T' v')) :
    Sem.run Try.prog (method 276 127 (.pointer (some p)) "Swap") W = Sem.run Try.prog (method (276 - 1) T' v' "Swap") W := by
  have : Sem.run Try.prog (method 276 127 (.pointer (some p)) "Swap") W = Sem.run Try.prog (do
    match ← (loadVar 114 p) with
    | .iface t' v' => method (276 - 1) t' v' "Swap"
    | .nilIface => runtimePanic .nilDeref
    | _ => stuck "method row: interface value expected") W := rfl
  rw [this]
  go_simp

set_option maxRecDepth 100000 in
theorem rev_less (b : Nat) (T' : TypeId) (v' : Value) (W : World) (h : W.cell? ⟨b, 0, none⟩ = some (.iface T' v')) :
    Sem.run Try.prog (method 276 127 (.pointer (some ⟨b, 0, none⟩)) "Less") W = .ok (112, .agg #[.iface T' v']) W := by
  have : Sem.run Try.prog (method 276 127 (.pointer (some ⟨b, 0, none⟩)) "Less") W = Sem.run Try.prog (do
    let v ← loadVar 129 ⟨b, 0, none⟩
    pure (112, v)) W := rfl
  rw [this]
  go_simp

section
variable {T : TypeId} {rv : Value} {gn gl gs : Nat} {rn rl rs : Value} {lt : Nat → Nat → Bool} {n : Nat} {own : Nat → Prop} {R : Array Nat → World → Prop} {RW : World → Prop}

set_option maxRecDepth 100000 in
/-- (reverse).Less calls Less the other way around. -/
theorem revLess_any (S : SortI T rv gn gl gs rn rl rs lt n own R RW) (d : Array Nat) (W : World) (hR : R d W) (i j : Nat) (hi : i < n) (hj : j < n) (hij : i ≠ j) :
    Calls Try.prog 112 #[.agg #[.iface T rv], .int .i64 i, .int .i64 j] W fun e w' => e = .returned (.bool (lt d[j]! d[i]!)) ∧ Below W.heap.size W w' := by
  have eL := S.el
  have m0 := fun W' h => S.ml W' (S.rw (S.below (W' := W') hR h))
  have hl := fun W' h => S.less (S.below (W' := W') hR h) j i hj hi (Ne.symm hij)
  have hs := fun c => (Below.refl W.heap.size W).alloc (Nat.le_refl _) (.cells c 129)
  go_enter Try.func112, Try.ntmps112
  go_wp2
  (with_reducible refine (hl _ (hs _)).mono ?_)
  rintro e w1 ⟨rfl, hb1⟩
  have hb2 := (hs _).trans (hb1.mono (by simp))
  go_wp2
  go_ret
  exact ⟨rfl, hb2⟩
end

section
variable {n : Nat} {E : Nat → EPt} {eb : Nat → Nat} {sb pb : Nat} {te : TypeId} {mv : Value} {cap : Nat} {tl : Array Value} {Q : Array Nat → (Nat → Nat) → Prop} {d : Array Nat}

set_option maxRecDepth 100000 in
/-- The endpoints, turned around by sort.Reverse. -/
theorem epsRev (G : EpsG n E eb sb pb Q) (rb : Nat) (hrs : rb ≠ sb) (hrp : rb ≠ pb) (hre : ∀ e, e < n → rb ≠ eb e) : SortI 127 (.pointer (some ⟨rb, 0, none⟩)) 109 112 111 (.pointer (some ⟨sb, 0, none⟩)) (.agg #[.iface 110 (.pointer (some ⟨sb, 0, none⟩))]) (.pointer (some ⟨sb, 0, none⟩)) (gtP E) n (fun b => OwnE n eb sb pb b ∨ b = rb) (fun d W => EpsW n E eb sb pb te mv cap tl Q d W ∧ Blk W rb #[.iface 110 (.pointer (some ⟨sb, 0, none⟩))] 129) (fun W => W.cell? ⟨rb, 0, none⟩ = some (.iface 110 (.pointer (some ⟨sb, 0, none⟩)))) where
  rw := fun h => h.2.cell 0
  size := fun h => h.1.size
  low := fun h b hb => hb.elim (h.1.low b) (fun e => e ▸ h.2.lt)
  stay := fun h _ hk => ⟨h.1.stay fun b hb => hk b (.inl hb), (hk _ (.inr rfl)).trans h.2⟩
  mn := fun W h => (rev_len _ _ _ W h).trans rfl
  ml := fun W h => rev_less _ _ _ W h
  ms := fun W h => (rev_swap _ _ _ W h).trans rfl
  en := fun _ _ => rfl
  el := fun _ _ => rfl
  es := fun _ _ => rfl
  len := fun {d W} h => epsLen_any W h.1
  less := fun {d W} h i j hi hj hij => revLess_any (epsSort (te := te) (mv := mv) (cap := cap) (tl := tl) G) d W h.1 i j hi hj hij
  swap := fun {d W} h i j hi hj => (epsSwap_any G W h.1 i j hi hj).mono fun e w' ⟨he, hw, hk⟩ =>
    ⟨he, ⟨hw, (hk.block rb (by rintro (e | e | ⟨e, h1, h2⟩); exact hrs e; exact hrp e; exact hre e h1 h2) h.2.lt).trans h.2⟩,
      ⟨hk.os, hk.tape, hk.output, hk.size, fun b hb hl => hk.block b (fun h => hb (.inl h)) hl⟩⟩

end
end Go.Proofs.Ytafanlbfbfbeoaa

/- The sort's pivot. -/
namespace Go.Proofs.Ytafanlbfbfbeoaa
open Go.RowKit

section
variable {T : TypeId} {rv : Value} {gn gl gs : Nat} {rn rl rs : Value} {lt : Nat → Nat → Bool} {n : Nat} {own : Nat → Prop} {R : Array Nat → World → Prop} {RW : World → Prop}

set_option maxRecDepth 100000 in
set_option maxHeartbeats 2000000 in
theorem choosePivot_any (S : SortI T rv gn gl gs rn rl rs lt n own R RW) (a b : Nat) (d : Array Nat) (W : World) (hR : R d W) (hab : a < b) (hb : b ≤ n) (hn : n < 1000000) :
    Calls Try.prog 73 #[.iface T rv, .int .i64 a, .int .i64 b] W fun e w' =>
      e = .returned (.tuple #[.int .i64 (Sort.choosePivot lt d a b).1, .int .i64 (Sort.hintCode (Sort.choosePivot lt d a b).2)]) ∧ Below W.heap.size W w' := by
  have hcb : ¬ own W.heap.size := fun h => Nat.lt_irrefl _ (S.low hR _ h)
  have hW0 : KeepsB (· = W.heap.size) W (W.alloc (.cells #[.int .i64 0] 3)) := KeepsB.of (below_alloc (Below.refl _ _) _ (Nat.le_refl _))
  have hS0 : Blk (W.alloc (.cells #[.int .i64 0] 3)) W.heap.size #[.int .i64 ((0 : Nat) : Int)] 3 := Blk.new _ _ _
  have MA := fun x s W' (hk : KeepsB (· = W.heap.size) W W') hS h1 h2 h3 => medianAdjacent_any S x W.heap.size s d W' (S.keep hcb hR hk) h1 h2 hn hcb hS h3
  have MD := fun x y z s W' (hk : KeepsB (· = W.heap.size) W W') hS h1 h2 h3 h4 h5 h6 h7 => median_any S x y z W.heap.size s d W' (S.keep hcb hR hk) h1 h2 h3 h4 h5 h6 hcb hS h7
  have hend : ∀ W', KeepsB (· = W.heap.size) W W' → Below W.heap.size W W' := fun W' hk => hk.below (Nat.le_refl _) (fun b e => by omega)
  rw [Sort.choosePivot_eq]
  obtain ⟨I, hI⟩ : ∃ I : Nat, I = a + (b - a) / 4 * 1 := ⟨_, rfl⟩
  obtain ⟨J, hJ⟩ : ∃ J : Nat, J = a + (b - a) / 4 * 2 := ⟨_, rfl⟩
  obtain ⟨K, hK⟩ : ∃ K : Nat, K = a + (b - a) / 4 * 3 := ⟨_, rfl⟩
  have eI : ((a : Int) + ((b : Int) - (a : Int)) / 4) = (I : Int) := by omega
  have eJ : ((a : Int) + ((b : Int) - (a : Int)) / 4 * 2) = (J : Int) := by omega
  have eK : ((a : Int) + ((b : Int) - (a : Int)) / 4 * 3) = (K : Int) := by omega
  by_cases h8 : b - a ≥ 8
  · by_cases h50 : b - a ≥ 50
    · -- the ninther
      have i1 := median_in (lt := lt) d (I - 1) I (I + 1) 0
      have n1 := Sort.medianAdjacent_count lt d I 0
      obtain ⟨i1v, s1, h1⟩ : ∃ i1 s1, Sort.medianAdjacent lt d I 0 = (i1, s1) := ⟨_, _, rfl⟩
      have i2 := median_in (lt := lt) d (J - 1) J (J + 1) s1
      have n2 := Sort.medianAdjacent_count lt d J s1
      obtain ⟨j1v, s2, h2⟩ : ∃ j1 s2, Sort.medianAdjacent lt d J s1 = (j1, s2) := ⟨_, _, rfl⟩
      have i3 := median_in (lt := lt) d (K - 1) K (K + 1) s2
      have n3 := Sort.medianAdjacent_count lt d K s2
      obtain ⟨k1v, s3, h3⟩ : ∃ k1 s3, Sort.medianAdjacent lt d K s2 = (k1, s3) := ⟨_, _, rfl⟩
      have n4 := Sort.median_count lt d i1v j1v k1v s3
      obtain ⟨p, s, h4⟩ : ∃ p s, Sort.median lt d i1v j1v k1v s3 = (p, s) := ⟨_, _, rfl⟩
      have hraw : Sort.rawPivot lt d a b = (p, s) := by simp only [Sort.rawPivot, if_pos h8, if_pos h50, ← hI, ← hJ, ← hK, h1, h2, h3, h4]
      rw [hraw]
      have e1 : (Sort.median lt d (I - 1) I (I + 1) 0).1 = i1v := congrArg Prod.fst h1
      have e2 : (Sort.median lt d (J - 1) J (J + 1) s1).1 = j1v := congrArg Prod.fst h2
      have e3 : (Sort.median lt d (K - 1) K (K + 1) s2).1 = k1v := congrArg Prod.fst h3
      rw [e1] at i1
      rw [e2] at i2
      rw [e3] at i3
      rw [h1] at n1
      rw [h2] at n2
      rw [h3] at n3
      rw [h4] at n4
      simp only at n1 n2 n3 n4
      have f1 := MA I 0 _ hW0 hS0 (by omega) (by omega) (by omega)
      have f2 := fun W' hk hS => MA J s1 W' hk hS (by omega) (by omega) (by omega)
      have f3 := fun W' hk hS => MA K s2 W' hk hS (by omega) (by omega) (by omega)
      have f4 := fun W' hk hS => MD i1v j1v k1v s3 W' hk hS (by omega) (by omega) (by omega) (by omega) (by omega) (by omega) (by omega)
      simp only [h1, h2, h3, h4] at f1 f2 f3 f4
      have h8i : (8 : Int) ≤ (b : Int) - a := by omega
      have h50i : (50 : Int) ≤ (b : Int) - a := by omega
      clear e1 e2 e3 h1 h2 h3 h4 hraw MA MD hI hJ hK i1 i2 i3 n1 n2 n3 hS0 h8 h50
      go_enter Try.func73, Try.ntmps73
      go_wp2_with fail
      refine f1.mono ?_
      rintro e w1 ⟨rfl, hS1, hk1⟩
      have hk1 := hW0.trans hk1
      go_wp2_with fail
      refine (f2 _ hk1 hS1).mono ?_
      rintro e w2 ⟨rfl, hS2, hk2⟩
      have hk2 := hk1.trans hk2
      go_wp2_with fail
      refine (f3 _ hk2 hS2).mono ?_
      rintro e w3 ⟨rfl, hS3, hk3⟩
      have hk3 := hk2.trans hk3
      go_wp2_with fail
      refine (f4 _ hk3 hS3).mono ?_
      rintro e w4 ⟨rfl, hS4, hk4⟩
      have hk4 := hk3.trans hk4
      have c0 : w4.cell? ⟨W.heap.size, 0, none⟩ = some (.int .i64 s) := hS4.cell 0
      have hB4 := hend _ hk4
      clear f1 f2 f3 f4 hS1 hS2 hS3 hk1 hk2 hk3 hS4 hk4 hW0
      by_cases s0 : s = 0
      · subst s0
        go_wp2_with fail
        go_ret2
        exact ⟨rfl, hB4⟩
      by_cases s12 : s = 12
      · subst s12
        go_wp2_with fail
        go_ret2
        exact ⟨rfl, hB4⟩
      have t0 : ((s : Int) == 0) = false := by simpa using s0
      have t1 : ((s : Int) == 12) = false := by simp; omega
      have hh : Hid (Sort.hintOf s = .unknown) := by unfold Hid Sort.hintOf; rw [if_neg s0, if_neg s12]
      clear s0 s12
      go_wp2_with fail
      go_ret2
      rw [hh.out]
      exact ⟨rfl, hB4⟩
    · -- one median
      have n4 := Sort.median_count lt d I J K 0
      obtain ⟨p, s, h4⟩ : ∃ p s, Sort.median lt d I J K 0 = (p, s) := ⟨_, _, rfl⟩
      have hraw : Sort.rawPivot lt d a b = (p, s) := by simp only [Sort.rawPivot, if_pos h8, if_neg h50, ← hI, ← hJ, ← hK, h4]
      rw [hraw]
      rw [h4] at n4
      simp only at n4
      have f4 := MD I J K 0 _ hW0 hS0 (by omega) (by omega) (by omega) (by omega) (by omega) (by omega) (by omega)
      simp only [h4] at f4
      have h8i : (8 : Int) ≤ (b : Int) - a := by omega
      have h50i : ¬ (50 : Int) ≤ (b : Int) - a := by omega
      clear h4 hraw MA MD hI hJ hK hS0 h8 h50
      go_enter Try.func73, Try.ntmps73
      go_wp2_with fail
      refine f4.mono ?_
      rintro e w4 ⟨rfl, hS4, hk4⟩
      have hk4 := hW0.trans hk4
      have c0 : w4.cell? ⟨W.heap.size, 0, none⟩ = some (.int .i64 s) := hS4.cell 0
      have hB4 := hend _ hk4
      clear f4 hS4 hk4 hW0
      by_cases s0 : s = 0
      · subst s0
        go_wp2_with fail
        go_ret2
        exact ⟨rfl, hB4⟩
      by_cases s12 : s = 12
      · subst s12
        go_wp2_with fail
        go_ret2
        exact ⟨rfl, hB4⟩
      have t0 : ((s : Int) == 0) = false := by simpa using s0
      have t1 : ((s : Int) == 12) = false := by simp; omega
      have hh : Hid (Sort.hintOf s = .unknown) := by unfold Hid Sort.hintOf; rw [if_neg s0, if_neg s12]
      clear s0 s12
      go_wp2_with fail
      go_ret2
      rw [hh.out]
      exact ⟨rfl, hB4⟩
  · have hraw : Sort.rawPivot lt d a b = (J, 0) := by simp only [Sort.rawPivot, if_neg h8, ← hJ]
    rw [hraw]
    have h8i : ¬ (8 : Int) ≤ (b : Int) - a := by omega
    have hB4 := hend _ hW0
    clear MA MD hI hJ hK hS0 h8 hraw
    go_enter Try.func73, Try.ntmps73
    go_wp2_with fail
    go_ret2
    exact ⟨rfl, hB4⟩
end
end Go.Proofs.Ytafanlbfbfbeoaa
