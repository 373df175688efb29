/- What the proofs over smartclip lean on, part 31 of 48. -/
import Derived.Test.YtafanlbfbfbeoaaM28
import Derived.Test.YtafanlbfbfbeoaaM29
import Derived.OwnWalk
import Derived.Test.YtafanlbfbfbeoaaM24
import Derived.Test.YtafanlbfbfbeoaaM06

/- What smartWrap does, as a machine of its own: endpoints in an order around the box; rows joined by corners and middles. -/
namespace Go.Proofs.Ytafanlbfbfbeoaa
open Go.RowKit

/-- The endpoint of the number e: of row e / 2, its start if e is even, else its end. -/
def endE (lx ly hx hy : Int) (rows : List (List (Int × Int))) (e : Nat) : EPt :=
  let p := if e % 2 = 0 then rows[e / 2]!.head! else rows[e / 2]!.getLast!
  ⟨p.1, p.2, e % 2 = 0, (sideI lx ly hx hy p.1 p.2).toNat, e / 2⟩

/-- The partner of an endpoint: the other end of its row. -/
def mateE (e : Nat) : Nat := if e % 2 = 0 then e + 1 else e - 1

/-- A point as its halves. -/
def dbl (r : List (Int × Int)) : List (Int × Int) := r.map dblP

structure WSt where
  i : Nat
  used : Nat → Bool
  cur : List (Int × Int)
  last : Nat
  res : List (List (Int × Int))

/-- One round of the loop: d the order of the endpoints, oe e the place of e's partner in it. -/
def stepW (o lx ly hx hy : Int) (rows : List (List (Int × Int))) (d : Array Nat) (oe : Nat → Nat) (s : WSt) : WSt :=
  if 2 * d.size ≤ s.i then s else
  let e := d[s.i % d.size]!
  if s.used e then { s with i := s.i + 1 }
  else if e % 2 = 1 then
    if s.cur = [] then { s with i := s.i + 1, used := fun x => s.used x || x == e, cur := dbl rows[e / 2]!, last := e / 2 }
    else { s with i := s.i + 1 }
  else if s.cur = [] then { s with i := s.i + 1 }
  else
    let br := aroundL o lx ly hx hy (endE lx ly hx hy rows e) (endE lx ly hx hy rows (2 * s.last + 1))
    let p := dblP (rows[e / 2]!.head!)
    if p = s.cur.head! then { i := 0, used := fun x => s.used x || x == e, cur := [], last := 0, res := s.res ++ [s.cur ++ br ++ [p]] }
    else { s with i := oe e + 1, used := fun x => s.used x || x == e || x == e + 1, cur := s.cur ++ br ++ dbl rows[e / 2]!, last := e / 2 }

def runW (o lx ly hx hy : Int) (rows : List (List (Int × Int))) (d : Array Nat) (oe : Nat → Nat) : Nat → WSt → WSt
  | 0, s => s
  | k + 1, s => runW o lx ly hx hy rows d oe k (stepW o lx ly hx hy rows d oe s)

def initW : WSt := ⟨0, fun _ => false, [], 0, []⟩

section
variable {o lx ly hx hy : Int} {rows : List (List (Int × Int))} {d : Array Nat} {oe : Nat → Nat}

theorem stepW_stop (s : WSt) (h : 2 * d.size ≤ s.i) : stepW o lx ly hx hy rows d oe s = s := by unfold stepW; rw [if_pos h]

theorem runW_stop (s : WSt) (h : 2 * d.size ≤ s.i) : ∀ k, runW o lx ly hx hy rows d oe k s = s
  | 0 => rfl
  | k + 1 => by rw [runW, stepW_stop s h, runW_stop s h k]

theorem runW_add (s : WSt) : ∀ k m, runW o lx ly hx hy rows d oe (k + m) s = runW o lx ly hx hy rows d oe m (runW o lx ly hx hy rows d oe k s)
  | 0, m => by rw [Nat.zero_add]; rfl
  | k + 1, m => by rw [Nat.succ_add, runW, runW, runW_add _ k m]

/-- Two runs that have come to an end have come to the same. -/
theorem runW_same (s : WSt) (k m : Nat) (hk : 2 * d.size ≤ (runW o lx ly hx hy rows d oe k s).i) (hm : 2 * d.size ≤ (runW o lx ly hx hy rows d oe m s).i) : runW o lx ly hx hy rows d oe k s = runW o lx ly hx hy rows d oe m s := by
  rcases Nat.le_total k m with h | h
  · obtain ⟨t, rfl⟩ := Nat.le.dest h
    rw [runW_add, runW_stop _ hk]
  · obtain ⟨t, rfl⟩ := Nat.le.dest h
    rw [runW_add, runW_stop _ hm]

theorem runW_step (s : WSt) (k : Nat) : runW o lx ly hx hy rows d oe (k + 1) s = stepW o lx ly hx hy rows d oe (runW o lx ly hx hy rows d oe k s) := by
  rw [runW_add]; rfl
end

/-- Two sorted orders of the same are the same, if no two stand alike. -/
theorem sorted_unique {lt : Nat → Nat → Bool} (_hirr : ∀ x, lt x x = false) (_htr : ∀ x y z, lt x y = true → lt y z = true → lt x z = true) {n : Nat} {d f g : Array Nat} (htot : ∀ i j, i < n → j < n → d[i]! ≠ d[j]! → lt d[i]! d[j]! = true ∨ lt d[j]! d[i]! = true)
    (hd : d.size = n) (hf : GoodS lt 0 n d f) (hg : GoodS lt 0 n d g) : f = g := by
  obtain ⟨⟨fs, -, fp⟩, fo⟩ := hf
  obtain ⟨⟨gs, -, gp⟩, go⟩ := hg
  have he : ∀ x : Array Nat, x.size = n → x.extract 0 n = x := fun x hx => by
    rw [← hx]; exact Array.extract_size
  rw [he f (by omega), he d hd] at fp
  rw [he g (by omega), he d hd] at gp
  have hpf : ∀ x : Array Nat, x.size = n → Sort.SortedIn lt 0 n x → x.toList.Pairwise (fun a b => lt b a = false) := fun x hx hs => by
    rw [List.pairwise_iff_getElem]
    intro i j hi hj hij
    have := hs i j (Nat.zero_le _) hij (by simp at hj; omega)
    rw [getElem!_pos x i (by simpa using hi), getElem!_pos x j (by simpa using hj)] at this
    simpa using this
  have h1 := hpf f (by omega) fo
  have h2 := hpf g (by omega) go
  apply Array.toList_inj.1
  refine List.Perm.eq_of_pairwise (le := fun a b => lt b a = false) ?_ h1 h2 (fp.trans gp.symm)
  intro a b ha hb hab hba
  have hma : a ∈ d.toList := fp.mem_iff.1 ha
  have hmb : b ∈ d.toList := gp.mem_iff.1 hb
  obtain ⟨i, hi, rfl⟩ := List.mem_iff_getElem.1 hma
  obtain ⟨j, hj, rfl⟩ := List.mem_iff_getElem.1 hmb
  simp only [Array.length_toList] at hi hj
  have e1 : d.toList[i] = d[i]! := by rw [getElem!_pos d i hi]; simp
  have e2 : d.toList[j] = d[j]! := by rw [getElem!_pos d j hj]; simp
  rw [e1, e2] at hab hba ⊢
  by_cases hne : d[i]! = d[j]!
  · exact hne
  · rcases htot i j (by omega) (by omega) hne with h | h
    · rw [hba] at h; cases h
    · rw [hab] at h; cases h
end Go.Proofs.Ytafanlbfbfbeoaa

/- smartWrap's endpoints in memory, and what the sort is handed of them. -/
namespace Go.Proofs.Ytafanlbfbfbeoaa
open Go.RowKit

/-- What is asked of the rows. -/
structure WrapOk (lx ly hx hy : Int) (rows : List (List (Int × Int))) : Prop where
  few : rows.length ≤ 100
  pos : 0 < rows.length
  len : ∀ r ∈ rows, 2 ≤ r.length ∧ r.length ≤ 400
  sm : ∀ r ∈ rows, ∀ p ∈ r, Sm p.1 ∧ Sm p.2
  side : ∀ e, e < 2 * rows.length → 1 ≤ (endE lx ly hx hy rows e).side ∧ (endE lx ly hx hy rows e).side ≤ 4 ∧ sideI lx ly hx hy (endE lx ly hx hy rows e).x (endE lx ly hx hy rows e).y = ((endE lx ly hx hy rows e).side : Int) ∧
    codeS lx ly hx hy (endE lx ly hx hy rows e).x (endE lx ly hx hy rows e).y = midC (endE lx ly hx hy rows e).side
  apart : ∀ e e', e < 2 * rows.length → e' < 2 * rows.length → e ≠ e' → (endE lx ly hx hy rows e).pos ≠ (endE lx ly hx hy rows e').pos

theorem info_ep : (Try.prog.info? 106).map (fun i => (i.zero, i.size, i.bytes)) = some (some (.pointer none), 1, 8) := by kernel_rfl

theorem news_two {w : World} {o : Obj} {cs : Array Value} {T : TypeId} : ∀ (j : Nat) (u : Value), cs.toList[j]? = some u → ((w.alloc o).alloc (.cells cs T)).cell? ((⟨w.heap.size + 1, 0, none⟩ : Addr).add j) = some u := by
  have := World.news_of_block (heap_alloc_new (w.alloc o) (.cells cs T))
  rw [World.size_alloc] at this
  exact this

/-- The endpoints laid in memory. -/
structure EndsAt (lx ly hx hy : Int) (rows : List (List (Int × Int))) (B : Nat) (w : World) (v : Value) (m : Nat) (eb : Nat → Nat) : Prop where
  row : w.ownsRow B 106 1 v m ((List.range m).map fun e => Value.pointer (some ⟨eb e, 0, none⟩))
  low : ∀ e, e < m → B ≤ eb e
  blk : ∀ e, e < m → Blk w (eb e) (epC (endE lx ly hx hy rows e) false (mateE e)) 108
  inj : ∀ e e', e < m → e' < m → eb e = eb e' → e = e'

theorem EndsAt.push {lx ly hx hy : Int} {rows : List (List (Int × Int))} {B m g g2 cap2 : Nat} {w w1 w2 : World} {v : Value} {eb : Nat → Nat} (h : EndsAt lx ly hx hy rows B w v m eb) (hb : Below w.heap.size w w1) (hg0 : w.heap.size ≤ g) (hBw : B ≤ w.heap.size)
    (hg : Blk w1 g (epC (endE lx ly hx hy rows m) false (mateE m)) 108) (hgr : w1.grownBy w2 v.ownBlock)
    (hown : w2.ownsRow B 106 1 (.slice (some ⟨g2, 0, none⟩) (m + 1) cap2) (m + 1) (((List.range m).map fun e => Value.pointer (some ⟨eb e, 0, none⟩)) ++ [.pointer (some ⟨g, 0, none⟩)])) :
    EndsAt lx ly hx hy rows B w2 (.slice (some ⟨g2, 0, none⟩) (m + 1) cap2) (m + 1) (fun e => if e = m then g else eb e) := by
  have hne : ∀ b cs, Blk w1 b cs 108 → some b ≠ v.ownBlock := fun b cs hbk e => by
    have h1 := own_below h.row hb (Nat.le_refl _)
    obtain ⟨_, hc⟩ := own_block h1 e.symm
    unfold Blk at hbk
    rw [hc] at hbk
    simp at hbk
  have heb : ∀ e, e < m → eb e < w.heap.size := fun e he => (h.blk e he).lt
  refine ⟨?_, ?_, ?_, ?_⟩
  · have e1 : ((List.range (m + 1)).map fun e => Value.pointer (some ⟨if e = m then g else eb e, 0, none⟩)) = ((List.range m).map fun e => Value.pointer (some ⟨eb e, 0, none⟩)) ++ [.pointer (some ⟨g, 0, none⟩)] := by
      rw [List.range_succ, List.map_append]
      congr 1
      · apply List.map_congr_left
        intro e he
        rw [if_neg (by have := List.mem_range.1 he; omega)]
      · simp
    rw [e1]
    exact hown
  · intro e he
    by_cases hm : e = m
    · simp only [hm, if_true]; omega
    · simp only [if_neg hm]; exact h.low e (by omega)
  · intro e he
    by_cases hm : e = m
    · subst hm
      simp only [if_true]
      exact hg.grown hgr (hne _ _ hg)
    · simp only [if_neg hm]
      have hbe := (h.blk e (by omega)).below hb (heb e (by omega))
      exact hbe.grown hgr (hne _ _ hbe)
  · intro e e' he he' hq
    by_cases hm : e = m <;> by_cases hm' : e' = m
    · omega
    · simp only [if_pos hm, if_neg hm'] at hq
      have := heb e' (by omega); omega
    · simp only [if_neg hm, if_pos hm'] at hq
      have := heb e (by omega); omega
    · simp only [if_neg hm, if_neg hm'] at hq
      exact h.inj e e' (by omega) (by omega) hq


/-- The order of the endpoints, and of each the place of its partner. -/
def QM (n : Nat) (d : Array Nat) (oe : Nat → Nat) : Prop := (∀ i j, i < n → j < n → d[i]! = d[j]! → i = j) ∧ ∀ e, e < n → oe e < n ∧ d[oe e]! = mateE e

theorem mate_mate (e : Nat) : mateE (mateE e) = e := by unfold mateE; (repeat' split) <;> omega
theorem mate_lt {m e : Nat} (h : e < 2 * m) : mateE e < 2 * m := by unfold mateE; split <;> omega

theorem QM.swap {m : Nat} {d : Array Nat} {oe : Nat → Nat} {i j : Nat} (h : QM (2 * m) d oe) (hs : d.size = 2 * m) (hd : ∀ k, k < 2 * m → d[k]! < 2 * m) (_hoe : ∀ e, e < 2 * m → oe e < 2 * m) (hi : i < 2 * m) (hj : j < 2 * m) :
    QM (2 * m) (Sort.swp d i j) (fun e => if e = d[oe d[j]!]! then i else if e = d[oe d[i]!]! then j else oe e) := by
  obtain ⟨hinj, hm⟩ := h
  have get : ∀ k, k < 2 * m → (Sort.swp d i j)[k]! = if k = j then d[i]! else if k = i then d[j]! else d[k]! := fun k hk => by
    by_cases hkj : k = j
    · subst hkj; rw [if_pos rfl, Sort.swp_right _ _ _ (by omega)]
    · rw [if_neg hkj]
      by_cases hki : k = i
      · subst hki; rw [if_pos rfl, Sort.swp_left _ _ _ (by omega) hkj]
      · rw [if_neg hki, Sort.swp_other _ _ _ _ hki hkj]
  constructor
  · intro a b ha hb e
    rw [get a ha, get b hb] at e
    by_cases h1 : a = j <;> by_cases h2 : b = j
    · omega
    · rw [if_pos h1, if_neg h2] at e
      by_cases h3 : b = i
      · rw [if_pos h3] at e; have := hinj _ _ hi hj e; omega
      · rw [if_neg h3] at e; have := hinj _ _ hi hb e; omega
    · rw [if_neg h1, if_pos h2] at e
      by_cases h3 : a = i
      · rw [if_pos h3] at e; have := hinj _ _ hj hi e; omega
      · rw [if_neg h3] at e; have := hinj _ _ ha hi e; omega
    · rw [if_neg h1, if_neg h2] at e
      by_cases h3 : a = i <;> by_cases h4 : b = i
      · omega
      · rw [if_pos h3, if_neg h4] at e; have := hinj _ _ hj hb e; omega
      · rw [if_neg h3, if_pos h4] at e; have := hinj _ _ ha hj e; omega
      · rw [if_neg h3, if_neg h4] at e; exact hinj _ _ ha hb e
  · intro e he
    have m1 := (hm _ (hd j hj)).2
    have m2 := (hm _ (hd i hi)).2
    simp only [m1, m2]
    by_cases h1 : e = mateE d[j]!
    · rw [if_pos h1]
      refine ⟨hi, ?_⟩
      rw [get i hi, h1, mate_mate]
      by_cases hij : i = j
      · subst hij; rw [if_pos rfl]
      · rw [if_neg hij, if_pos rfl]
    · rw [if_neg h1]
      by_cases h2 : e = mateE d[i]!
      · rw [if_pos h2]
        refine ⟨hj, ?_⟩
        rw [get j hj, h2, mate_mate, if_pos rfl]
      · rw [if_neg h2]
        obtain ⟨h3, h4⟩ := hm e he
        refine ⟨h3, ?_⟩
        rw [get _ h3]
        have n1 : oe e ≠ j := fun e' => h1 (by rw [← e', h4, mate_mate])
        have n2 : oe e ≠ i := fun e' => h2 (by rw [← e', h4, mate_mate])
        rw [if_neg n1, if_neg n2, h4]

/-- By which the endpoints are sorted. -/
def ltO (o : Int) (E : Nat → EPt) : Nat → Nat → Bool := if o = 1 then ltP E else gtP E

theorem range_get {n k : Nat} (h : k < n) : (Array.range n)[k]! = k := by
  rw [getElem!_pos _ _ (by simpa using h)]; simp

/-- The endpoints are what the sort asks for. -/
theorem EndsAt.good {lx ly hx hy : Int} {rows : List (List (Int × Int))} {B : Nat} {w : World} {pb cap : Nat} {eb : Nat → Nat} (hO : WrapOk lx ly hx hy rows) (h : EndsAt lx ly hx hy rows B w (.slice (some ⟨pb, 0, none⟩) (2 * rows.length) cap) (2 * rows.length) eb) {sb : Nat} (hsb : w.heap.size ≤ sb) :
    EpsG (2 * rows.length) (endE lx ly hx hy rows) eb sb pb (QM (2 * rows.length)) where
  hn := by have := hO.few; omega
  ok := fun e he => by
    obtain ⟨h1, h2, -, -⟩ := hO.side e he
    have hr : e / 2 < rows.length := by omega
    have hs : Sm (endE lx ly hx hy rows e).x ∧ Sm (endE lx ly hx hy rows e).y := by
      have hm := List.getElem_mem hr
      have hl := hO.len _ hm
      unfold endE
      simp only
      rw [getElem!_pos rows _ hr]
      split
      · refine hO.sm _ hm _ ?_
        cases hc : rows[e / 2] with
        | nil => rw [hc] at hl; simp at hl
        | cons p l => exact List.mem_cons_self
      · refine hO.sm _ hm _ ?_
        cases hc : rows[e / 2] with
        | nil => rw [hc] at hl; simp at hl
        | cons p l =>
          have : (p :: l).getLast! = (p :: l).getLast (by simp) := by rw [List.getLast!_eq_getLast?_getD, List.getLast?_eq_some_getLast (by simp)]; rfl
          rw [this]; exact List.getLast_mem _
    exact ⟨hs.1, hs.2, h1, h2⟩
  pos := hO.apart
  ebi := h.inj
  ebp := fun e he hq => by
    obtain ⟨_, hc⟩ := own_block h.row (g := pb) rfl
    have hb := h.blk e he
    unfold Blk at hb
    rw [hq, hc] at hb
    simp at hb
  ebs := fun e he hq => by have := (h.blk e he).lt; omega
  pbs := fun hq => by have := (h.row.lt pb rfl).2; omega
  inj := fun d oe hQ => hQ.1
  swap := fun d oe i j hQ h1 h2 h3 hi hj => hQ.swap h1 h2 h3 hi hj

/-- They lie in their first order. -/
theorem EndsAt.order {lx ly hx hy : Int} {rows : List (List (Int × Int))} {B : Nat} {w : World} {pb cap : Nat} {eb : Nat → Nat} (h : EndsAt lx ly hx hy rows B w (.slice (some ⟨pb, 0, none⟩) (2 * rows.length) cap) (2 * rows.length) eb) :
    ∃ tl : Array Value, ∀ (mv : Value), EpsW (2 * rows.length) (endE lx ly hx hy rows) eb w.heap.size pb 106 mv cap tl (QM (2 * rows.length)) (Array.range (2 * rows.length)) (w.alloc (.cells #[mv, .slice (some ⟨pb, 0, none⟩) (2 * rows.length) cap] 112)) := by
  obtain ⟨h1, h2⟩ := h.row
  rcases h2 with ⟨hv, _⟩ | ⟨g, cap', cur, hv, hb, hg, hle, hml, hsz, htk⟩
  · cases hv
  · injection hv with e1 e2 e3
    injection e1 with e1
    injection e1 with e1
    subst e1 e3
    refine ⟨cur.extract (2 * rows.length) cur.size, fun mv => ⟨by simp, fun k hk => by rw [range_get hk]; exact hk, Blk.new _ _ _, ?_, mateE, ⟨fun i j hi hj e => ?_, fun e he => ⟨mate_lt he, range_get (mate_lt he)⟩⟩, fun e he => ⟨mate_lt he, (h.blk e he).alloc _⟩⟩⟩
    · have hcur : cur = (Array.range (2 * rows.length)).map (fun e => Value.pointer (some ⟨eb e, 0, none⟩)) ++ cur.extract (2 * rows.length) cur.size := by
        apply Array.toList_inj.1
        simp only [Array.toList_append, Array.toList_map, Array.toList_range]
        have e3 : (cur.extract (2 * rows.length) cur.size).toList = cur.toList.drop (2 * rows.length) := by
          simp
          exact List.take_of_length_le (by simp)
        rw [e3, ← htk, Nat.mul_one, List.take_append_drop]
      rw [← hcur]
      exact Blk.alloc hg _
    · rw [range_get hi, range_get hj] at e; exact e
end Go.Proofs.Ytafanlbfbfbeoaa

/- A ring within a box, clipped smartly: itself. -/
namespace Go.Proofs.Ytafanlbfbfbeoaa
open Go.RowKit

theorem ptE_dbl {p : Int × Int} (hp : Near p) : ptE p = hE (dblP p) := by
  have h := hp.sm
  unfold Sm at h
  have e1 : F p.1 = H (2 * p.1) := F_H (by omega)
  have e2 : F p.2 = H (2 * p.2) := F_H (by omega)
  show [Value.float .f64 (F p.1), Value.float .f64 (F p.2)] = [Value.float .f64 (H (2 * p.1)), Value.float .f64 (H (2 * p.2))]
  rw [e1, e2]

theorem flat_dbl {ps : List (Int × Int)} (h : ∀ p ∈ ps, Near p) : ps.flatMap ptE = (ps.map dblP).flatMap hE := by
  have e : ∀ p ∈ ps, ptE p = hE (dblP p) := fun p hp => ptE_dbl (h p hp)
  clear h
  generalize ptE = f at *
  generalize hE = g at *
  induction ps with
  | nil => simp
  | cons p ps ih =>
    simp only [List.flatMap_cons, List.map_cons]
    rw [ih (fun q hq => e q (List.mem_cons_of_mem _ hq)), e p List.mem_cons_self]

theorem own_dbl {w : World} {B : Nat} {e : TypeId} {v : Value} {ps : List (Int × Int)} (hn : ∀ p ∈ ps, Near p) (h : w.ownsRow B e 2 v ps.length (ps.flatMap ptE)) : w.ownsRow B e 2 v (ps.map dblP).length ((ps.map dblP).flatMap hE) := by
  rw [List.length_map, ← flat_dbl hn]; exact h

/-- How a ring turns. -/
def turnI (o : Bool) : Int := if o then 1 else -1

set_option maxRecDepth 100000 in
set_option maxHeartbeats 1000000 in
theorem turn_any (o : Bool) (w : World) : Calls Try.prog 30 #[.bool o] w fun e w' => e = .returned (.int .i8 (turnI o)) ∧ w' = w := by
  cases o
  all_goals
    go_enter Try.func30, Try.ntmps30
    go_wp2
    go_ret
    exact ⟨rfl, rfl⟩

theorem one_poly {ys : List (Value × List (Value × List (Int × Int)))} {r u : Value} {qs : List (Int × Int)} (h : ys.map (fun y => y.2.map Prod.snd) = [(r, [(u, qs)])].map (fun x => x.2.map Prod.snd)) : ∃ r' u', ys = [(r', [(u', qs)])] := by
  cases ys with
  | nil => simp at h
  | cons y ys =>
    obtain ⟨r', y2⟩ := y
    simp only [List.map_cons, List.map_nil] at h
    obtain ⟨h1, h2⟩ := List.cons.inj h
    obtain ⟨u', rfl⟩ := one_row h1
    rw [List.map_eq_nil_iff] at h2
    subst h2
    exact ⟨r', u', rfl⟩

/-- A literal of one polygon of one ring. -/
theorem poly_one {w : World} {B B' : Nat} {t3 t2 e : TypeId} {enc : Int × Int → List Value} {ao : Option Addr} {cap : Nat} {ps : List (Int × Int)} {n : Nat} (hB : B ≤ w.heap.size) (ho : w.ownsRow B' e 2 (.slice ao n cap) ps.length (ps.flatMap enc)) :
    PolysAt ((w.alloc (.cells #[.slice ao n cap] t2)).alloc (.cells #[.slice (some ⟨w.heap.size, 0, none⟩) 1 1] t3)) B t3 t2 e enc (.slice (some ⟨w.heap.size + 1, 0, none⟩) 1 1) [(.slice (some ⟨w.heap.size, 0, none⟩) 1 1, [(.slice ao n cap, ps)])] := by
  obtain ⟨ao', cap', hv⟩ := own_form ho
  cases hv
  have h1 := own_new (w.alloc (.cells #[.slice ao ps.length cap] t2)) B (by simp; omega) t3 1 1 [.slice (some ⟨w.heap.size, 0, none⟩) 1 1] rfl (by omega)
  rw [World.size_alloc] at h1
  refine ⟨_, 1, rfl, h1, fun x hx => ?_⟩
  rw [List.mem_singleton.1 hx]
  exact (rows_one (t := t2) (B := 0) (Nat.zero_le _) ho).alloc _

set_option maxRecDepth 100000 in
set_option maxHeartbeats 1000000 in
theorem smartIn_any (lx ly hx hy : Int) (hl : Near (lx, ly)) (hh : Near (hx, hy)) (h1 : lx < hx) (h2 : ly < hy) (o : Int) (ao : Option Addr) (cap : Nat) (ps : List (Int × Int)) (B : Nat) (w : World) (h4 : 4 ≤ ps.length) (hlen : ps.length ≤ 1000) (hn : ∀ p ∈ ps, Near p)
    (hoc : ∀ i (h : i + 1 < ps.length), Octi ps[i] ps[i + 1]) (he : ps[ps.length - 1] = ps[0]) (hR : lineL true lx ly hx hy ps = [ps]) (hin : (lx < ps[0].1 ∧ ps[0].1 < hx) ∧ ly < ps[0].2 ∧ ps[0].2 < hy) (h : w.ownsRow B 69 2 (.slice ao ps.length cap) ps.length (ps.flatMap ptE)) :
    Calls Try.prog 27 #[.agg #[.float .f64 (F lx), .float .f64 (F ly), .float .f64 (F hx), .float .f64 (F hy)], .slice ao ps.length cap, .int .i8 o] w
      fun e w' => ∃ v r u, e = .returned v ∧ PolysAt w' w.heap.size 86 74 69 hE v [(r, [(u, ps.map dblP)])] ∧ Below w.heap.size w w' := by
  have hclip := fun v B W hr => clipInside_any lx ly hx hy hl hh h1 h2 v (.slice ao ps.length cap) ps B W h4 hlen hn hoc he hR hin hr
  have hd := own_dbl hn h
  clear hR hoc he hin
  go_enter Try.func27, Try.ntmps27
  go_wp2_with fail
  have hr := rows_one (t := 74) (Nat.zero_le _) (h.alloc (.cells #[.float .f64 (F lx), .float .f64 (F ly), .float .f64 (F hx), .float .f64 (F hy)] 71))
  simp only [World.size_alloc] at hr
  refine (hclip _ 0 _ hr).mono ?_
  rintro e w1 ⟨ao1, cap1, ao2, cap2, rfl, hb1⟩
  have hB1 : Below w.heap.size w w1 := (((Below.refl _ _).alloc (Nat.le_refl _) _).alloc (by simp) _).trans (hb1.mono (by simp; omega))
  have hd1 := own_below hd (C := w.heap.size) hB1 (Nat.le_refl _)
  clear hclip hr hb1 h hd
  go_wp2_with fail
  go_ret
  exact ⟨_, _, _, rfl, poly_one hB1.size hd1, below_alloc (below_alloc hB1 _ (Nat.le_refl _)) _ (Nat.le_refl _)⟩

set_option maxRecDepth 100000 in
set_option maxHeartbeats 1000000 in
theorem implSmartIn_any (lx ly hx hy : Int) (hl : Near (lx, ly)) (hh : Near (hx, hy)) (h1 : lx < hx) (h2 : ly < hy) (o : Bool) (ao : Option Addr) (cap : Nat) (ps : List (Int × Int)) (B : Nat) (w : World) (h4 : 4 ≤ ps.length) (hlen : ps.length ≤ 1000) (hn : ∀ p ∈ ps, Near p)
    (hoc : ∀ i (h : i + 1 < ps.length), Octi ps[i] ps[i + 1]) (he : ps[ps.length - 1] = ps[0]) (hR : lineL true lx ly hx hy ps = [ps]) (hin : (lx < ps[0].1 ∧ ps[0].1 < hx) ∧ ly < ps[0].2 ∧ ps[0].2 < hy) (h : w.ownsRow B 39 2 (.slice ao ps.length cap) ps.length (ps.flatMap ptE)) :
    Calls Try.prog 13 #[.agg #[.float .f64 (F lx), .float .f64 (F ly), .float .f64 (F hx), .float .f64 (F hy)], .slice ao ps.length cap, .bool o] w
      fun e w' => ∃ v r u, e = .returned v ∧ PolysAt w' w.heap.size 46 43 39 hE v [(r, [(u, ps.map dblP)])] ∧ Below w.heap.size w w' := by
  have hlp : ps.length ≤ 100000000 := by omega
  have hsm := fun o ao cap B W hr => smartIn_any lx ly hx hy hl hh h1 h2 o ao cap ps B W h4 hlen hn hoc he hR hin hr
  clear hR hoc he hin
  go_enter Try.func13, Try.ntmps13
  go_wp2_with fail
  refine (bound_any lx ly hx hy _).mono ?_
  rintro e w1 ⟨rfl, hb1⟩
  have ho1 := own_below (h.alloc (.cells #[.float .f64 (F lx), .float .f64 (F ly), .float .f64 (F hx), .float .f64 (F hy)] 41)) hb1 (Nat.le_refl _)
  have hB1 : Below w.heap.size w w1 := ((Below.refl _ _).alloc (Nat.le_refl _) _).trans (hb1.mono (by simp))
  clear hb1 h
  go_wp2_with fail
  refine (points_any ao cap ps B _ hlp ho1).mono ?_
  rintro e w2 ⟨ao2, cap2, rfl, ho2, hb2⟩
  have hB2 := hB1.trans (hb2.mono hB1.size)
  clear ho1 hb2
  go_wp2_with fail
  refine (turn_any o _).mono ?_
  rintro e w3 ⟨rfl, rfl⟩
  go_wp2_with fail
  refine (hsm _ ao2 cap2 _ _ ho2).mono ?_
  rintro e w4 ⟨v4, r4, u4, rfl, hp4, hb4⟩
  have hB4 := hB2.trans (hb4.mono hB2.size)
  clear ho2 hb4 hsm
  go_wp2_with fail
  refine (plainPolygonsH_any v4 _ _ _ (fun x hx => by rw [List.mem_singleton.1 hx]; exact ⟨fun y hy => by rw [List.mem_singleton.1 hy]; simp; omega, by simp⟩) (by simp) hp4).mono ?_
  rintro e w5 ⟨v5, ys, rfl, hys, hp5, hb5⟩
  obtain ⟨r5, u5, rfl⟩ := one_poly hys
  have hB5 := hB4.trans (hb5.mono hB4.size)
  have hp6 := hp5.mono hB4.size
  clear hp4 hb5 hp5 hys
  go_wp2_with fail
  go_ret
  exact ⟨_, r5, u5, rfl, hp6, hB5⟩
end Go.Proofs.Ytafanlbfbfbeoaa

/- What lies in memory while smartWrap's loop runs: the rows that are left, the ring that is under way, the rings that are done. -/
namespace Go.Proofs.Ytafanlbfbfbeoaa
open Go.RowKit

section
variable {w w' : World} {B B' : Nat} {e : TypeId} {s n : Nat} {v : Value} {xs : List Value}

theorem own_same (h : w.ownsRow B e s v n xs) (hs : ∀ g cur, v.ownBlock = some g → w.heap[g]? = some (.cells cur e (0, 0)) → w'.heap[g]? = w.heap[g]?) : w'.ownsRow B e s v n xs := by
  refine ⟨h.1, ?_⟩
  rcases h.2 with hn | ⟨g, cap, cur, rfl, hb', hg, rest⟩
  · exact .inl hn
  · exact .inr ⟨g, cap, cur, rfl, hb', by rw [hs g cur rfl hg]; exact hg, rest⟩

theorem own_raise (h : w.ownsRow B' e s v n xs) (hb : ∀ g, v.ownBlock = some g → B ≤ g) : w.ownsRow B e s v n xs := by
  refine ⟨h.1, ?_⟩
  rcases h.2 with hn | ⟨g, cap, cur, rfl, _, rest⟩
  · exact .inl hn
  · exact .inr ⟨g, cap, cur, rfl, hb g rfl, rest⟩
end

/-- Worlds in which the blocks of points, rings, polygons, but one, are the same. -/
def Same3 (w w' : World) (row : Option Nat) : Prop := ∀ g cur t, w.heap[g]? = some (.cells cur t (0, 0)) → (t = 69 ∨ t = 74 ∨ t = 86) → row ≠ some g → w'.heap[g]? = w.heap[g]?

theorem heap_lt {w : World} {g : Nat} {o : Obj} (h : w.heap[g]? = some o) : g < w.heap.size := by
  rcases Nat.lt_or_ge g w.heap.size with hlt | hge
  · exact hlt
  · rw [Array.getElem?_eq_none hge] at h; cases h

theorem same3_below {w w' : World} (h : Below w.heap.size w w') (row : Option Nat) : Same3 w w' row := fun g _ _ hg _ _ => h.block g (heap_lt hg)
theorem same3_grown {w w' : World} {row : Option Nat} (h : w.grownBy w' row) : Same3 w w' row := fun g _ _ hg _ hr => h.block g (heap_lt hg) (fun e => hr e.symm)
theorem same3_none {w w' : World} {b : Nat} {cs : Array Value} {t : TypeId} (h : Same3 w w' (some b)) (hb : Blk w b cs t) (h1 : t ≠ 69) (h2 : t ≠ 74) (h3 : t ≠ 86) : Same3 w w' none := fun g cur t' hg ht _ => by
  refine h g cur t' hg ht fun e => ?_
  injection e with e
  subst e
  unfold Blk at hb
  rw [hb] at hg
  injection hg with hg
  injection hg with _ hg
  subst hg
  rcases ht with rfl | rfl | rfl
  · exact h1 rfl
  · exact h2 rfl
  · exact h3 rfl

section
variable {w w' : World} {B : Nat} {enc : Int × Int → List Value} {v : Value} {row : Option Nat}
theorem RowAt.same {ps : List (Int × Int)} (h : RowAt w 69 enc v ps) (hs : Same3 w w' row) (hne : ∀ g, v.ownBlock = some g → row ≠ some g) : RowAt w' 69 enc v ps := by
  obtain ⟨ao, cap, rfl, ho⟩ := h
  exact ⟨ao, cap, rfl, own_same ho fun g cur hg hc => hs g cur _ hc (.inl rfl) (hne g hg)⟩
theorem RowsAt.same {xs : List (Value × List (Int × Int))} (h : RowsAt w B 74 69 enc v xs) (hs : Same3 w w' row) (hr : ∀ g cur, w.heap[g]? = some (.cells cur 74 (0, 0)) → row ≠ some g) (hne : ∀ f ∈ xs, ∀ g, f.1.ownBlock = some g → row ≠ some g) : RowsAt w' B 74 69 enc v xs := by
  obtain ⟨ao, cap, rfl, ho, hx⟩ := h
  exact ⟨ao, cap, rfl, own_same ho fun g cur hg hc => hs g cur _ hc (.inr (.inl rfl)) (hr g cur hc), fun f hf => (hx f hf).same hs (hne f hf)⟩
theorem PolysAt.same {xs : List (Value × List (Value × List (Int × Int)))} (h : PolysAt w B 86 74 69 enc v xs) (hs : Same3 w w' row) (hr : ∀ g cur, w.heap[g]? = some (.cells cur 74 (0, 0)) → row ≠ some g) (hp : ∀ g cur, w.heap[g]? = some (.cells cur 86 (0, 0)) → row ≠ some g)
    (hne : ∀ x ∈ xs, ∀ f ∈ x.2, ∀ g, f.1.ownBlock = some g → row ≠ some g) : PolysAt w' B 86 74 69 enc v xs := by
  obtain ⟨ao, cap, rfl, ho, hx⟩ := h
  exact ⟨ao, cap, rfl, own_same ho fun g cur hg hc => hs g cur _ hc (.inr (.inr rfl)) (hp g cur hc), fun x hm => (hx x hm).same hs hr (hne x hm)⟩
end

theorem flat_cong' {α β : Type} {f g : α → List β} : ∀ {l : List α}, (∀ a ∈ l, f a = g a) → l.flatMap f = l.flatMap g
  | [], _ => rfl
  | a :: l, h => by rw [List.flatMap_cons, List.flatMap_cons, h a (by simp), flat_cong' fun b hb => h b (by simp [hb])]

structure WrapM (w : World) (B : Nat) (xs : List (Value × List (Int × Int))) (used : Nat → Bool) (cv : Value) (cur : List (Int × Int)) (rv : Value) (ps : List (Value × List (Value × List (Int × Int)))) : Prop where
  rows : ∀ r (h : r < xs.length), used (2 * r + 1) = false → RowAt w 69 ptE xs[r].1 xs[r].2
  low : ∀ r (h : r < xs.length) g, xs[r].1.ownBlock = some g → B ≤ g
  apart : ∀ r r' (h : r < xs.length) (h' : r' < xs.length), r ≠ r' → ∀ g, xs[r].1.ownBlock = some g → xs[r'].1.ownBlock ≠ some g
  cur : w.ownsRow B 69 2 cv cur.length (cur.flatMap hE)
  crw : ∀ r (h : r < xs.length), used (2 * r + 1) = false → ∀ g, cv.ownBlock = some g → xs[r].1.ownBlock ≠ some g
  pol : PolysAt w B 86 74 69 hE rv ps
  fcv : ∀ x ∈ ps, ∀ f ∈ x.2, ∀ g, f.1.ownBlock = some g → cv.ownBlock ≠ some g
  frw : ∀ x ∈ ps, ∀ f ∈ x.2, ∀ r (h : r < xs.length), used (2 * r + 1) = false → ∀ g, f.1.ownBlock = some g → xs[r].1.ownBlock ≠ some g

section
variable {w w' : World} {B : Nat} {xs : List (Value × List (Int × Int))} {used : Nat → Bool} {cv rv : Value} {cur : List (Int × Int)} {ps : List (Value × List (Value × List (Int × Int)))}

theorem WrapM.other (h : WrapM w B xs used cv cur rv ps) (hs : Same3 w w' none) : WrapM w' B xs used cv cur rv ps where
  rows r hr hu := (h.rows r hr hu).same hs fun g _ => by simp
  low := h.low
  apart := h.apart
  cur := own_same h.cur fun g c _ hc => hs g c _ hc (.inl rfl) (by simp)
  crw := h.crw
  pol := h.pol.same hs (fun g _ _ => by simp) (fun g _ _ => by simp) fun x _ f _ g _ => by simp
  fcv := h.fcv
  frw := h.frw

theorem WrapM.below (h : WrapM w B xs used cv cur rv ps) (hb : Below w.heap.size w w') : WrapM w' B xs used cv cur rv ps := h.other (same3_below hb _)

theorem WrapM.more {used' : Nat → Bool} (h : WrapM w B xs used cv cur rv ps) (hu : ∀ x, used' x = false → used x = false) : WrapM w B xs used' cv cur rv ps where
  rows r hr h1 := h.rows r hr (hu _ h1)
  low := h.low
  apart := h.apart
  cur := h.cur
  crw r hr h1 := h.crw r hr (hu _ h1)
  pol := h.pol
  fcv := h.fcv
  frw x hx f hf r hr h1 := h.frw x hx f hf r hr (hu _ h1)

/-- A row is taken. -/
theorem WrapM.take (h : WrapM w B xs used cv cur rv ps) {r : Nat} (hr : r < xs.length) (hu : used (2 * r + 1) = false) (hsm : ∀ p ∈ xs[r].2, Sm p.1 ∧ Sm p.2) :
    WrapM w B xs (fun x => used x || x == 2 * r + 1) xs[r].1 (dbl xs[r].2) rv ps where
  rows q hq h1 := h.rows q hq (by simp only [Bool.or_eq_false_iff] at h1; exact h1.1)
  low := h.low
  apart := h.apart
  cur := by
    obtain ⟨ao, cap, hv, ho⟩ := h.rows r hr hu
    have hd : (dbl xs[r].2).flatMap hE = xs[r].2.flatMap ptE := by
      unfold dbl
      rw [List.flatMap_map]
      refine flat_cong' fun p hp => ?_
      exact hE_dbl (hsm p hp).1 (hsm p hp).2
    have hl : (dbl xs[r].2).length = xs[r].2.length := by simp [dbl]
    rw [hd, hl, hv]
    exact own_raise ho fun g hg => h.low r hr g (by rw [hv]; exact hg)
  crw q hq h1 g hg := by
    simp only [Bool.or_eq_false_iff, beq_eq_false_iff_ne] at h1
    exact h.apart r q hr hq (by omega) g hg
  pol := h.pol
  fcv x hx f hf g hg := h.frw x hx f hf r hr hu g hg
  frw x hx f hf q hq h1 := h.frw x hx f hf q hq (by simp only [Bool.or_eq_false_iff] at h1; exact h1.1)

theorem WrapM.bcur (h : WrapM w B xs used cv cur rv ps) {g : Nat} (hg : cv.ownBlock = some g) : ∃ c : Array Value, w.heap[g]? = some (.cells c 69 (0, 0)) := own_block h.cur hg

/-- The ring that is under way has grown. -/
theorem WrapM.push (h : WrapM w B xs used cv cur rv ps) {qs : List (Int × Int)} {g2 cap2 : Nat} (hgr : w.grownBy w' cv.ownBlock) (hat : cv.ownBlock = some g2 ∨ g2 = w.heap.size)
    (hown : w'.ownsRow B 69 2 (.slice (some ⟨g2, 0, none⟩) (cur.length + qs.length) cap2) (cur.length + qs.length) (cur.flatMap hE ++ qs.flatMap hE)) :
    WrapM w' B xs used (.slice (some ⟨g2, 0, none⟩) (cur.length + qs.length) cap2) (cur ++ qs) rv ps := by
  have hs := same3_grown hgr
  have hne : ∀ {x}, x ∈ ps → ∀ f ∈ x.2, RowAt w 69 hE f.1 f.2 := fun hx f hf => by
    obtain ⟨_, _, _, _, hp⟩ := h.pol
    obtain ⟨_, _, _, _, hq⟩ := hp _ hx
    exact hq f hf
  refine ⟨fun r hr hu => (h.rows r hr hu).same hs fun g hg e => h.crw r hr hu g e hg, h.low, h.apart, ?_, fun r hr hu g hg => ?_, ?_, fun x hx f hf g hg => ?_, h.frw⟩
  · rw [List.length_append, List.flatMap_append]; exact hown
  · have hg : g2 = g := by simpa [Value.ownBlock] using hg
    subst hg
    rcases hat with e | e
    · exact h.crw r hr hu _ e
    · intro e'
      have := (row_block' (h.rows r hr hu) _ e').1
      omega
  · refine h.pol.same hs (fun g c hc e => ?_) (fun g c hc e => ?_) fun x hx f hf g hg => h.fcv x hx f hf g hg
    · obtain ⟨_, hc2⟩ := h.bcur e
      rw [hc] at hc2
      simp at hc2
    · obtain ⟨_, hc2⟩ := h.bcur e
      rw [hc] at hc2
      simp at hc2
  · have hlt := (row_block' (hne hx f hf) g hg).1
    show some g2 ≠ some g
    rcases hat with e | e
    · rw [← e]; exact h.fcv x hx f hf g hg
    · intro e'; injection e' with e'; omega

/-- A ring is done. -/
theorem WrapM.done {w1 w2 : World} (h : WrapM w B xs used cv cur rv ps) (hb : Below w.heap.size w w1) {gp g2 cap2 : Nat} {ao : Option Addr} {ln cp : Nat} (hcv : cv = .slice ao ln cp) (hgp : Blk w1 gp #[cv] 74) (hgr : w1.grownBy w2 rv.ownBlock)
    (hown : w2.ownsRow B 86 1 (.slice (some ⟨g2, 0, none⟩) (ps.length + 1) cap2) (ps.length + 1) (ps.map Prod.fst ++ [.slice (some ⟨gp, 0, none⟩) 1 1])) :
    WrapM w2 B xs used (.slice none 0 0) [] (.slice (some ⟨g2, 0, none⟩) (ps.length + 1) cap2) (ps ++ [(.slice (some ⟨gp, 0, none⟩) 1 1, [(cv, cur)])]) := by
  have h1 := h.below hb
  have hs := same3_grown hgr
  have hrt : ∀ g, rv.ownBlock = some g → ∃ c : Array Value, w1.heap[g]? = some (.cells c 86 (0, 0)) := fun g hg => by
    obtain ⟨ao, cap, rfl, ho, _⟩ := h1.pol
    exact own_block ho hg
  have hnp : ∀ g c, w1.heap[g]? = some (.cells c 69 (0, 0)) → rv.ownBlock ≠ some g := fun g c hc e => by
    obtain ⟨_, hc2⟩ := hrt g e
    rw [hc] at hc2
    simp at hc2
  have hnr : ∀ g c, w1.heap[g]? = some (.cells c 74 (0, 0)) → rv.ownBlock ≠ some g := fun g c hc e => by
    obtain ⟨_, hc2⟩ := hrt g e
    rw [hc] at hc2
    simp at hc2
  have hrw : ∀ {v qs} {enc : Int × Int → List Value}, RowAt w1 69 enc v qs → RowAt w2 69 enc v qs := fun hr => hr.same hs fun g hg => by
    obtain ⟨_, c, hc⟩ := row_block' hr g hg
    exact hnp g c hc
  have hcur : cv = .slice ao cur.length cp := by
    have := h1.cur
    subst hcv
    rcases this.2 with ⟨hv, h0⟩ | ⟨g, cap, c, hv, _⟩
    · injection hv with e1 e2 e3
      rw [e1, e2, e3, h0]
    · injection hv with e1 e2 e3
      rw [e2]
  have hring : RowAt w2 69 hE cv cur := hrw ⟨ao, cp, hcur, by rw [← hcur]; exact own_mono h1.cur (Nat.zero_le _)⟩
  have hpoly : RowsAt w2 0 74 69 hE (.slice (some ⟨gp, 0, none⟩) 1 1) [(cv, cur)] := by
    have hg2 : Blk w2 gp #[cv] 74 := hgp.grown hgr fun e => hnr gp _ hgp e.symm
    refine ⟨some ⟨gp, 0, none⟩, 1, rfl, ⟨by simp, .inr ⟨gp, 1, #[cv], rfl, Nat.zero_le _, hg2, Nat.le_refl _, by unfold maxLen; omega, by simp, by simp⟩⟩, fun f hf => ?_⟩
    rw [List.mem_singleton.1 hf]
    exact hring
  refine ⟨fun r hr hu => hrw (h1.rows r hr hu), h.low, h.apart, ⟨by simp, .inl ⟨rfl, rfl⟩⟩, fun r hr hu g hg => by simp [Value.ownBlock] at hg, ⟨some ⟨g2, 0, none⟩, cap2, by simp, ?_, fun x hx => ?_⟩, fun x hx f hf g hg => by simp [Value.ownBlock], fun x hx f hf r hr hu g hg => ?_⟩
  · rw [List.length_append, List.map_append]
    exact hown
  · rcases List.mem_append.1 hx with hx | hx
    · obtain ⟨_, _, _, _, hp⟩ := h1.pol
      obtain ⟨a3, c3, hv3, ho3, hq⟩ := hp x hx
      exact ⟨a3, c3, hv3, own_same ho3 fun g c _ hc => hs g c _ hc (.inr (.inl rfl)) (hnr g c hc), fun f hf => hrw (hq f hf)⟩
    · rw [List.mem_singleton.1 hx]
      exact hpoly
  · rcases List.mem_append.1 hx with hx | hx
    · exact h.frw x hx f hf r hr hu g hg
    · rw [List.mem_singleton.1 hx] at hf
      rw [List.mem_singleton.1 hf] at hg
      exact h.crw r hr hu g hg
end

/-- The endpoints, in their order. -/
structure WrapE (w : World) (n : Nat) (E : Nat → EPt) (eb : Nat → Nat) (pb : Nat) (oe : Nat → Nat) (d : Array Nat) (used : Nat → Bool) : Prop where
  eps : ∀ e, e < n → Blk w (eb e) (epC (E e) (used e) (oe e)) 108
  row : ∀ k, k < n → w.cell? ⟨pb, k, none⟩ = some (.pointer (some ⟨eb d[k]!, 0, none⟩))
  ptr : ∃ c : Array Value, Blk w pb c 106
  inj : ∀ e e', e < n → e' < n → eb e = eb e' → e = e'

section
variable {w w' : World} {n : Nat} {E : Nat → EPt} {eb : Nat → Nat} {pb : Nat} {oe : Nat → Nat} {d : Array Nat} {used used' : Nat → Bool}

theorem WrapE.kept (h : WrapE w n E eb pb oe d used) {row : Option Nat} (hg : w.grownBy w' row) (hr : ∀ b c, Blk w b c 108 ∨ Blk w b c 106 → some b ≠ row) : WrapE w' n E eb pb oe d used where
  eps e he := (h.eps e he).grown hg (hr _ _ (.inl (h.eps e he)))
  row k hk := by
    obtain ⟨c, hc⟩ := h.ptr
    have h2 := hc.grown hg (hr _ _ (.inr hc))
    rw [← h.row k hk, h2.cell, hc.cell]
  ptr := by
    obtain ⟨c, hc⟩ := h.ptr
    exact ⟨c, hc.grown hg (hr _ _ (.inr hc))⟩
  inj := h.inj

theorem WrapE.below (h : WrapE w n E eb pb oe d used) (hb : Below w.heap.size w w') : WrapE w' n E eb pb oe d used :=
  h.kept (row := none) ⟨hb.os, hb.tape, hb.output, hb.size, fun k hk _ => hb.block k hk⟩ fun b c _ => by simp

theorem WrapE.row_kept (h : WrapE w n E eb pb oe d used) {t : TypeId} {B s m : Nat} {v : Value} {ys : List Value} (ho : w.ownsRow B t s v m ys) (hg : w.grownBy w' v.ownBlock) (h1 : t ≠ 108) (h2 : t ≠ 106) : WrapE w' n E eb pb oe d used :=
  h.kept hg fun b c hb e => by
    obtain ⟨_, hc⟩ := own_block ho e.symm
    unfold Blk at hb
    rw [hc] at hb
    rcases hb with hb | hb
    · injection hb with hb; injection hb with _ hb; exact h1 hb
    · injection hb with hb; injection hb with _ hb; exact h2 hb

/-- An endpoint is marked. -/
theorem WrapE.mark (h : WrapE w n E eb pb oe d used) {e : Nat} (he : e < n) : WrapE (w.setCell ⟨eb e, 3, none⟩ (.bool true)) n E eb pb oe d (fun x => used x || x == e) where
  eps x hx := by
    by_cases hxe : x = e
    · subst hxe
      have := (h.eps x hx).set 3 (.bool true)
      simp only [beq_self_eq_true, Bool.or_true]
      exact this
    · have h2 : (used x || x == e) = used x := by simp [hxe]
      rw [h2]
      exact (h.eps x hx).setOther _ (fun e' => hxe (h.inj _ _ hx he e')) _
  row k hk := by
    obtain ⟨c, hc⟩ := h.ptr
    have hne : pb ≠ eb e := fun e' => by
      have := h.eps e he
      unfold Blk at hc this
      rw [← e', hc] at this
      simp at this
    rw [← h.row k hk, (hc.setOther (⟨eb e, 3, none⟩ : Addr) hne _).cell, hc.cell]
  ptr := by
    obtain ⟨c, hc⟩ := h.ptr
    have hne : pb ≠ eb e := fun e' => by
      have := h.eps e he
      unfold Blk at hc this
      rw [← e', hc] at this
      simp at this
    exact ⟨c, hc.setOther (⟨eb e, 3, none⟩ : Addr) hne _⟩
  inj := h.inj

theorem grown_set (w : World) (a : Addr) (v : Value) : w.grownBy (w.setCell a v) (some a.block) :=
  ⟨by simp [World.setCell], by simp [World.setCell], by simp [World.setCell], by simp [World.setCell], fun k _ hk => Below.heap_setCell w a v k fun e => hk (by rw [e])⟩
end
end Go.Proofs.Ytafanlbfbfbeoaa

/- What holds of the machine at every step: bounds; where the ring under way begins and ends. -/
namespace Go.Proofs.Ytafanlbfbfbeoaa

theorem walkB_len (o t : Int) : ∀ (k : Nat) (c : Int), (walkB o t k c).length ≤ k
  | 0, _ => Nat.le_refl _
  | k + 1, c => by
    unfold walkB
    split
    · simp
    · have := walkB_len o t k (nextI o c)
      simp only [List.length_cons]; omega

theorem aroundL_len (o lx ly hx hy : Int) (f l : EPt) : (aroundL o lx ly hx hy f l).length ≤ 8 := by
  unfold aroundL
  split
  · simp
  · rw [List.length_map]; exact walkB_len _ _ _ _

structure CurOk (rows : List (List (Int × Int))) (n k : Nat) (s : WSt) : Prop where
  i : s.i ≤ 4 * n
  res : s.res.length ≤ k
  len : s.cur.length ≤ 500 * k
  rlen : ∀ r ∈ s.res, r.length ≤ 500 * k
  last : s.cur ≠ [] → s.last < n ∧ 2 ≤ s.cur.length ∧ (∃ r, r < n ∧ s.cur.head! = dblP rows[r]!.head!) ∧ s.cur.getLast! = dblP rows[s.last]!.getLast!

theorem getLast_app {α : Type} [Inhabited α] {a b : List α} (h : b ≠ []) : (a ++ b).getLast! = b.getLast! := by
  rcases List.eq_nil_or_concat b with e | ⟨m, y, e⟩
  · exact absurd e h
  · rw [e, List.concat_eq_append, ← List.append_assoc, List.getLast!_eq_getLast?_getD, List.getLast!_eq_getLast?_getD]
    simp

theorem dbl_last {l : List (Int × Int)} (h : l ≠ []) : (dbl l).getLast! = dblP l.getLast! := by
  rw [List.getLast!_eq_getLast?_getD, List.getLast!_eq_getLast?_getD]
  unfold dbl
  rw [List.getLast?_map, List.getLast?_eq_some_getLast h]
  rfl

theorem head_app' {a b : List (Int × Int)} (h : a ≠ []) : (a ++ b).head! = a.head! := by
  cases a with
  | nil => exact absurd rfl h
  | cons p l => rfl

theorem dbl_head' {l : List (Int × Int)} (h : l ≠ []) : (dbl l).head! = dblP l.head! := by
  cases l with
  | nil => exact absurd rfl h
  | cons p l => rfl

theorem curOk_step {o lx ly hx hy : Int} {rows : List (List (Int × Int))} (hO : WrapOk lx ly hx hy rows) {n : Nat} (hn : n = rows.length) {d : Array Nat} {oe : Nat → Nat} (hd : d.size = 2 * n) (hid : ∀ k, k < 2 * n → d[k]! < 2 * n) (hoe : ∀ e, e < 2 * n → oe e < 2 * n) {k : Nat} {s : WSt} (h : CurOk rows n k s) :
    CurOk rows n (k + 1) (stepW o lx ly hx hy rows d oe s) := by
  have h1 := h.i
  have h2 := h.res
  have h3 := h.len
  have hpos := hO.pos
  have hk : CurOk rows n (k + 1) s := ⟨h1, by omega, by omega, fun r hr => by have := h.rlen r hr; omega, h.last⟩
  unfold stepW
  split
  · exact hk
  · rename_i hlt
    rw [hd] at hlt
    have hmod : s.i % d.size < 2 * n := by rw [hd]; exact Nat.mod_lt _ (by omega)
    have he := hid _ hmod
    have hr : d[s.i % d.size]! / 2 < rows.length := by omega
    have hrow := hO.len _ (List.getElem_mem hr)
    have hget : rows[d[s.i % d.size]! / 2]! = rows[d[s.i % d.size]! / 2] := getElem!_pos rows _ hr
    have hne : rows[d[s.i % d.size]! / 2]! ≠ [] := fun e => by rw [hget] at e; rw [e] at hrow; simp at hrow
    have hdl : (dbl rows[d[s.i % d.size]! / 2]!).length ≤ 400 ∧ 2 ≤ (dbl rows[d[s.i % d.size]! / 2]!).length := by
      rw [hget]; simp only [dbl, List.length_map]; omega
    have hdne : dbl rows[d[s.i % d.size]! / 2]! ≠ [] := fun e => by rw [e] at hdl; simp at hdl
    have skip : CurOk rows n (k + 1) { s with i := s.i + 1 } := ⟨by show s.i + 1 ≤ _; omega, hk.res, hk.len, hk.rlen, hk.last⟩
    simp only
    split
    · exact skip
    · split
      · split
        · refine ⟨by show s.i + 1 ≤ _; omega, hk.res, by show (dbl rows[d[s.i % d.size]! / 2]!).length ≤ _; omega, hk.rlen, fun _ => ⟨by show d[s.i % d.size]! / 2 < n; omega, hdl.2, ⟨d[s.i % d.size]! / 2, by omega, dbl_head' hne⟩, dbl_last hne⟩⟩
        · exact skip
      · split
        · exact skip
        · rename_i hcur
          have hal := aroundL_len o lx ly hx hy (endE lx ly hx hy rows d[s.i % d.size]!) (endE lx ly hx hy rows (2 * s.last + 1))
          obtain ⟨l1, l2, l3, l4⟩ := h.last hcur
          split
          · refine ⟨Nat.zero_le _, by simp; omega, by simp, fun r hr => ?_, fun hc => absurd rfl hc⟩
            rcases List.mem_append.1 hr with hr | hr
            · exact hk.rlen r hr
            · rw [List.mem_singleton.1 hr]
              simp only [List.length_append, List.length_singleton]
              omega
          · refine ⟨by have := hoe _ he; show oe d[s.i % d.size]! + 1 ≤ _; omega, hk.res, by simp only [List.length_append]; omega, hk.rlen, fun _ => ⟨by show d[s.i % d.size]! / 2 < n; omega, by simp only [List.length_append]; omega, ?_, ?_⟩⟩
            · obtain ⟨r, hr, e⟩ := l3
              refine ⟨r, hr, ?_⟩
              show (s.cur ++ _ ++ _).head! = _
              rw [List.append_assoc, head_app' hcur, e]
            · show (s.cur ++ _ ++ _).getLast! = _
              rw [getLast_app hdne, dbl_last hne]

theorem curOk_run {o lx ly hx hy : Int} {rows : List (List (Int × Int))} (hO : WrapOk lx ly hx hy rows) {n : Nat} (hn : n = rows.length) {d : Array Nat} {oe : Nat → Nat} (hd : d.size = 2 * n) (hid : ∀ k, k < 2 * n → d[k]! < 2 * n) (hoe : ∀ e, e < 2 * n → oe e < 2 * n) : ∀ k, CurOk rows n k (runW o lx ly hx hy rows d oe k initW)
  | 0 => ⟨Nat.zero_le _, Nat.le_refl _, Nat.le_refl _, fun r hr => by simp [initW, runW] at hr, fun h => absurd rfl h⟩
  | k + 1 => by rw [runW_step]; exact curOk_step hO hn hd hid hoe (curOk_run hO hn hd hid hoe k)
end Go.Proofs.Ytafanlbfbfbeoaa

/- What smartWrap's walk asks of its machine: that it comes to an end, and takes no row twice. -/
namespace Go.Proofs.Ytafanlbfbfbeoaa

/-- A row that is added to the ring under way was not taken before. -/
def SafeW (rows : List (List (Int × Int))) (d : Array Nat) (s : WSt) : Prop :=
  s.i < 2 * d.size → d[s.i % d.size]! % 2 = 0 → s.used d[s.i % d.size]! = false → s.cur ≠ [] → dblP (rows[d[s.i % d.size]! / 2]!.head!) ≠ s.cur.head! → s.used (d[s.i % d.size]! + 1) = false

/-- The order of the endpoints is sound. -/
def SortO (o lx ly hx hy : Int) (rows : List (List (Int × Int))) (n : Nat) (d : Array Nat) (oe : Nat → Nat) : Prop :=
  GoodS (ltO o (endE lx ly hx hy rows)) 0 (2 * n) (Array.range (2 * n)) d ∧ QM (2 * n) d oe ∧ d.size = 2 * n ∧ ∀ k, k < 2 * n → d[k]! < 2 * n

def EndOk (o lx ly hx hy : Int) (rows : List (List (Int × Int))) : Prop :=
  ∀ d oe, SortO o lx ly hx hy rows rows.length d oe → ∃ K, K ≤ 100000 ∧ 2 * d.size ≤ (runW o lx ly hx hy rows d oe K initW).i ∧ ∀ k, SafeW rows d (runW o lx ly hx hy rows d oe k initW)

/-- One step knows of the partners' places only what is told within bounds. -/
theorem stepW_oe {o lx ly hx hy : Int} {rows : List (List (Int × Int))} {d : Array Nat} {oe oe' : Nat → Nat} (hid : ∀ k, k < d.size → oe d[k]! = oe' d[k]!) (s : WSt) : stepW o lx ly hx hy rows d oe s = stepW o lx ly hx hy rows d oe' s := by
  unfold stepW
  by_cases h : 2 * d.size ≤ s.i
  · rw [if_pos h, if_pos h]
  · rw [if_neg h, if_neg h]
    have hm : s.i % d.size < d.size := Nat.mod_lt _ (by omega)
    simp only [hid _ hm]

theorem runW_oe {o lx ly hx hy : Int} {rows : List (List (Int × Int))} {d : Array Nat} {oe oe' : Nat → Nat} (hid : ∀ k, k < d.size → oe d[k]! = oe' d[k]!) : ∀ (k : Nat) (s : WSt), runW o lx ly hx hy rows d oe k s = runW o lx ly hx hy rows d oe' k s
  | 0, _ => rfl
  | k + 1, s => by rw [runW, runW, stepW_oe hid, runW_oe hid k]

theorem ltO_irr (o : Int) (E : Nat → EPt) : ∀ x, ltO o E x x = false := fun x => by
  unfold ltO
  split
  · unfold ltP; exact decide_eq_false (Int.lt_irrefl _)
  · unfold gtP; exact decide_eq_false (Int.lt_irrefl _)
theorem ltO_trans (o : Int) (E : Nat → EPt) : ∀ x y z, ltO o E x y = true → ltO o E y z = true → ltO o E x z = true := fun x y z => by
  unfold ltO
  split
  · unfold ltP; simp only [decide_eq_true_eq]; exact Int.lt_trans
  · unfold gtP; simp only [decide_eq_true_eq]; exact fun a b => Int.lt_trans b a
theorem ltO_tot {o : Int} {E : Nat → EPt} {x y : Nat} (h : (E x).pos ≠ (E y).pos) : ltO o E x y = true ∨ ltO o E y x = true := by
  have h2 : (E x).pos < (E y).pos ∨ (E y).pos < (E x).pos := by
    generalize (E x).pos = a at *; generalize (E y).pos = b at *; omega
  unfold ltO
  split
  · unfold ltP; simp only [decide_eq_true_eq]; exact h2
  · unfold gtP; simp only [decide_eq_true_eq]; exact h2.symm

/-- Two sound orders are the same. -/
theorem sortO_same {o lx ly hx hy : Int} {rows : List (List (Int × Int))} (hO : WrapOk lx ly hx hy rows) {d d' : Array Nat} {oe oe' : Nat → Nat} (h : SortO o lx ly hx hy rows rows.length d oe) (h' : SortO o lx ly hx hy rows rows.length d' oe') :
    d = d' ∧ ∀ k, k < d.size → oe d[k]! = oe' d[k]! := by
  obtain ⟨g, q, s, i⟩ := h
  obtain ⟨g', q', s', i'⟩ := h'
  have e : d = d' := sorted_unique (ltO_irr o _) (ltO_trans o _) (n := 2 * rows.length) (d := Array.range (2 * rows.length)) (fun a b ha hb hab => by
    rw [range_get ha, range_get hb] at hab ⊢
    exact ltO_tot (hO.apart a b ha hb hab)) (by simp) g g'
  subst e
  refine ⟨rfl, fun k hk => ?_⟩
  rw [s] at hk
  have a1 := q.2 _ (i k hk)
  have a2 := q'.2 _ (i k hk)
  exact q.1 _ _ a1.1 a2.1 (a1.2.trans a2.2.symm)

/-- Two runs to the end make the same rings. -/
theorem ends_same {o lx ly hx hy : Int} {rows : List (List (Int × Int))} (hO : WrapOk lx ly hx hy rows) {d d' : Array Nat} {oe oe' : Nat → Nat} (h : SortO o lx ly hx hy rows rows.length d oe) (h' : SortO o lx ly hx hy rows rows.length d' oe') {k m : Nat}
    (hk : 2 * d.size ≤ (runW o lx ly hx hy rows d oe k initW).i) (hm : 2 * d'.size ≤ (runW o lx ly hx hy rows d' oe' m initW).i) : (runW o lx ly hx hy rows d oe k initW).res = (runW o lx ly hx hy rows d' oe' m initW).res := by
  obtain ⟨rfl, e⟩ := sortO_same hO h h'
  rw [← runW_oe e] at hm ⊢
  rw [runW_same _ k m hk hm]
end Go.Proofs.Ytafanlbfbfbeoaa

/- What lies in memory while smartWrap's loop runs: all of it. -/
namespace Go.Proofs.Ytafanlbfbfbeoaa
open Go.RowKit

structure WrapA (w0 w : World) (B : Nat) (lx ly hx hy : Int) (rows : List (List (Int × Int))) (N : Nat) (xs : List (Value × List (Int × Int))) (gR bx : Nat) (eb : Nat → Nat) (pb : Nat) (oe : Nat → Nat) (d : Array Nat) (used : Nat → Bool) (cv : Value) (cur : List (Int × Int)) (rv : Value) (ps : List (Value × List (Value × List (Int × Int)))) : Prop where
  m : WrapM w B xs used cv cur rv ps
  e : WrapE w N (endE lx ly hx hy rows) eb pb oe d used
  gr : ∀ r (h : r < xs.length), w.cell? ⟨gR, r, none⟩ = some xs[r].1
  gty : ∃ c : Array Value, Blk w gR c 100
  box : Blk w bx #[.float .f64 (F lx), .float .f64 (F ly), .float .f64 (F hx), .float .f64 (F hy)] 71
  bel : Below B w0 w
  low : ∀ e, e < N → B ≤ eb e
  size : B ≤ w0.heap.size

section
variable {w0 w w' : World} {B : Nat} {lx ly hx hy : Int} {rows : List (List (Int × Int))} {N : Nat} {xs : List (Value × List (Int × Int))} {gR bx : Nat} {eb : Nat → Nat} {pb : Nat} {oe : Nat → Nat} {d : Array Nat} {used : Nat → Bool} {cv : Value} {cur : List (Int × Int)} {rv : Value} {ps : List (Value × List (Value × List (Int × Int)))}

theorem WrapA.hB (h : WrapA w0 w B lx ly hx hy rows N xs gR bx eb pb oe d used cv cur rv ps) : B ≤ w.heap.size := Nat.le_trans h.size h.bel.size

theorem WrapA.below (h : WrapA w0 w B lx ly hx hy rows N xs gR bx eb pb oe d used cv cur rv ps) (hb : Below w.heap.size w w') : WrapA w0 w' B lx ly hx hy rows N xs gR bx eb pb oe d used cv cur rv ps where
  m := h.m.below hb
  e := h.e.below hb
  gr r hr := by
    obtain ⟨c, hc⟩ := h.gty
    rw [← h.gr r hr, (hc.below hb hc.lt).cell, hc.cell]
  gty := by
    obtain ⟨c, hc⟩ := h.gty
    exact ⟨c, hc.below hb hc.lt⟩
  box := h.box.below hb h.box.lt
  bel := h.bel.trans (hb.mono h.hB)
  low := h.low
  size := h.size

theorem WrapA.more {used' : Nat → Bool} (h : WrapA w0 w B lx ly hx hy rows N xs gR bx eb pb oe d used cv cur rv ps) (hu : ∀ x, used' x = used x) : WrapA w0 w B lx ly hx hy rows N xs gR bx eb pb oe d used' cv cur rv ps := by
  have : used' = used := funext hu
  rw [this]; exact h

/-- An endpoint is marked. -/
theorem WrapA.mark (h : WrapA w0 w B lx ly hx hy rows N xs gR bx eb pb oe d used cv cur rv ps) {e : Nat} (he : e < N) : WrapA w0 (w.setCell ⟨eb e, 3, none⟩ (.bool true)) B lx ly hx hy rows N xs gR bx eb pb oe d (fun x => used x || x == e) cv cur rv ps := by
  have hbe := h.e.eps e he
  have hne : ∀ {b c t}, Blk w b c t → t ≠ 108 → b ≠ eb e := fun hb ht e' => by
    unfold Blk at hb hbe
    rw [e', hbe] at hb
    injection hb with hb
    injection hb with _ hb
    exact ht hb.symm
  exact {
    m := (h.m.other (same3_none (same3_grown (grown_set w ⟨eb e, 3, none⟩ (.bool true))) hbe (by decide) (by decide) (by decide))).more fun x hx => by simp only [Bool.or_eq_false_iff] at hx; exact hx.1
    e := h.e.mark he
    gr := fun r hr => by
      obtain ⟨c, hc⟩ := h.gty
      rw [← h.gr r hr, (hc.setOther (⟨eb e, 3, none⟩ : Addr) (hne hc (by decide)) _).cell, hc.cell]
    gty := by
      obtain ⟨c, hc⟩ := h.gty
      exact ⟨c, hc.setOther (⟨eb e, 3, none⟩ : Addr) (hne hc (by decide)) _⟩
    box := h.box.setOther (⟨eb e, 3, none⟩ : Addr) (hne h.box (by decide)) _
    bel := h.bel.setCell (h.low e he) _
    low := h.low
    size := h.size }

/-- A row is taken. -/
theorem WrapA.take (h : WrapA w0 w B lx ly hx hy rows N xs gR bx eb pb oe d used cv cur rv ps) {e : Nat} (he : e < N) (ho : e % 2 = 1) (hr : e / 2 < xs.length) (hu : used e = false) (hsm : ∀ p ∈ xs[e / 2].2, Sm p.1 ∧ Sm p.2) :
    WrapA w0 (w.setCell ⟨eb e, 3, none⟩ (.bool true)) B lx ly hx hy rows N xs gR bx eb pb oe d (fun x => used x || x == e) xs[e / 2].1 (dbl xs[e / 2].2) rv ps := by
  have h2 := h.mark he
  have ee : 2 * (e / 2) + 1 = e := by omega
  have ht := h.m.take hr (by rw [ee]; exact hu) hsm
  rw [ee] at ht
  have hbe := h.e.eps e he
  exact { h2 with m := ht.other (same3_none (same3_grown (grown_set w ⟨eb e, 3, none⟩ (.bool true))) hbe (by decide) (by decide) (by decide)) }

/-- The ring that is under way has grown. -/
theorem WrapA.push (h : WrapA w0 w B lx ly hx hy rows N xs gR bx eb pb oe d used cv cur rv ps) {qs : List (Int × Int)} {g2 cap2 : Nat} (hgr : w.grownBy w' cv.ownBlock) (hat : cv.ownBlock = some g2 ∨ g2 = w.heap.size)
    (hown : w'.ownsRow B 69 2 (.slice (some ⟨g2, 0, none⟩) (cur.length + qs.length) cap2) (cur.length + qs.length) (cur.flatMap hE ++ qs.flatMap hE)) :
    WrapA w0 w' B lx ly hx hy rows N xs gR bx eb pb oe d used (.slice (some ⟨g2, 0, none⟩) (cur.length + qs.length) cap2) (cur ++ qs) rv ps := by
  have hne : ∀ {b c t}, Blk w b c t → t ≠ 69 → some b ≠ cv.ownBlock := fun hb ht e' => by
    obtain ⟨c2, hc2⟩ := h.m.bcur e'.symm
    unfold Blk at hb
    rw [hc2] at hb
    injection hb with hb
    injection hb with _ hb
    exact ht hb.symm
  exact {
    m := h.m.push hgr hat hown
    e := h.e.row_kept h.m.cur hgr (by decide) (by decide)
    gr := fun r hr => by
      obtain ⟨c, hc⟩ := h.gty
      rw [← h.gr r hr, (hc.grown hgr (hne hc (by decide))).cell, hc.cell]
    gty := by
      obtain ⟨c, hc⟩ := h.gty
      exact ⟨c, hc.grown hgr (hne hc (by decide))⟩
    box := h.box.grown hgr (hne h.box (by decide))
    bel := h.bel.grown hgr h.hB fun k hk => (h.m.cur.lt k hk).1
    low := h.low
    size := h.size }

/-- A ring is done. -/
theorem WrapA.done {w1 w2 : World} (h : WrapA w0 w B lx ly hx hy rows N xs gR bx eb pb oe d used cv cur rv ps) (hb : Below w.heap.size w w1) {gp g2 cap2 : Nat} {ao : Option Addr} {ln cp : Nat} (hcv : cv = .slice ao ln cp) (hgp : Blk w1 gp #[cv] 74) (hgr : w1.grownBy w2 rv.ownBlock)
    (hown : w2.ownsRow B 86 1 (.slice (some ⟨g2, 0, none⟩) (ps.length + 1) cap2) (ps.length + 1) (ps.map Prod.fst ++ [.slice (some ⟨gp, 0, none⟩) 1 1])) :
    WrapA w0 w2 B lx ly hx hy rows N xs gR bx eb pb oe d used (.slice none 0 0) [] (.slice (some ⟨g2, 0, none⟩) (ps.length + 1) cap2) (ps ++ [(.slice (some ⟨gp, 0, none⟩) 1 1, [(cv, cur)])]) := by
  have h1 := h.below hb
  obtain ⟨ao', cap', hrv, ho, hpp⟩ := h1.m.pol
  have ho' : w1.ownsRow B 86 1 rv ps.length (ps.map Prod.fst) := by rw [hrv]; exact ho
  have hne : ∀ {b c t}, Blk w1 b c t → t ≠ 86 → some b ≠ rv.ownBlock := fun hb ht e' => by
    obtain ⟨c2, hc2⟩ := own_block ho' e'.symm
    unfold Blk at hb
    rw [hc2] at hb
    injection hb with hb
    injection hb with _ hb
    exact ht hb.symm
  exact {
    m := h.m.done hb hcv hgp hgr hown
    e := h1.e.row_kept ho' hgr (by decide) (by decide)
    gr := fun r hr => by
      obtain ⟨c, hc⟩ := h1.gty
      rw [← h1.gr r hr, (hc.grown hgr (hne hc (by decide))).cell, hc.cell]
    gty := by
      obtain ⟨c, hc⟩ := h1.gty
      exact ⟨c, hc.grown hgr (hne hc (by decide))⟩
    box := h1.box.grown hgr (hne h1.box (by decide))
    bel := h1.bel.grown hgr h1.hB fun k hk => (ho'.lt k hk).1
    low := h.low
    size := h.size }

/-- What the loop reads of an endpoint. -/
theorem WrapA.ep (h : WrapA w0 w B lx ly hx hy rows N xs gR bx eb pb oe d used cv cur rv ps) {k : Nat} (hk : k < N) (hd : d[k]! < N) {p : Int × Int} {st : Bool} {sd ix : Nat} (hE : endE lx ly hx hy rows d[k]! = ⟨p.1, p.2, st, sd, ix⟩) : ∃ g, g = eb d[k]! ∧ w.cell? ⟨pb, k, none⟩ = some (.pointer (some ⟨g, 0, none⟩)) ∧
    w.cell? ⟨g, 0, none⟩ = some (.float .f64 (F p.1)) ∧ w.cell? ⟨g, 1, none⟩ = some (.float .f64 (F p.2)) ∧ w.cell? ⟨g, 2, none⟩ = some (.bool st) ∧ w.cell? ⟨g, 3, none⟩ = some (.bool (used d[k]!)) ∧ w.cell? ⟨g, 5, none⟩ = some (.int .i64 ix) ∧ w.cell? ⟨g, 6, none⟩ = some (.int .i64 (oe d[k]!)) := by
  have hb := h.e.eps _ hd
  rw [hE] at hb
  exact ⟨_, rfl, h.e.row k hk, hb.cell 0, hb.cell 1, hb.cell 2, hb.cell 3, hb.cell 5, hb.cell 6⟩

theorem append_none {P : Program} (w : World) (t ty e : TypeId) (i : TypeInfo) (ht : P.underlying t = some (.slice e)) (hi : P.info? e = some i) (base ad : Option Addr) (sLen sCap c : Nat) (hle : sLen ≤ sCap) :
    (Builtin.append_ #[t, t] ty #[.slice base sLen sCap, .slice ad 0 c]).run P w = .ok (.slice base sLen sCap) w := by
  cases base <;> cases ad <;> simp [Builtin.append_, run_underlying ht, sizeOf, typeInfo, hi, hle, Builtin.lenOf, Builtin.firstCells, storeCells, loadCells, loadCellsFrom]
end

theorem wrapA_start {w w2 : World} {B : Nat} {lx ly hx hy : Int} {rows : List (List (Int × Int))} {N n capR : Nat} {xs : List (Value × List (Int × Int))} {gR bx : Nat} {eb : Nat → Nat} {pb : Nat} {oe : Nat → Nat} {d : Array Nat} (hB : B ≤ w.heap.size) (hln : Lines w B (.slice (some ⟨gR, 0, none⟩) n capR) xs) (hxn : xs.length = n)
    (hb : Below w.heap.size w w2) (hbx : Blk w2 bx #[.float .f64 (F lx), .float .f64 (F ly), .float .f64 (F hx), .float .f64 (F hy)] 71) (hE : ∀ e, e < N → Blk w2 (eb e) (epC (endE lx ly hx hy rows e) false (oe e)) 108)
    (hrow : ∀ k, k < N → w2.cell? ⟨pb, k, none⟩ = some (.pointer (some ⟨eb d[k]!, 0, none⟩))) (hptr : ∃ c : Array Value, Blk w2 pb c 106) (hinj : ∀ e e', e < N → e' < N → eb e = eb e' → e = e') (hlow : ∀ e, e < N → B ≤ eb e) :
    WrapA w w2 B lx ly hx hy rows N xs gR bx eb pb oe d (fun _ => false) (.slice none 0 0) [] (.slice none 0 0) [] := by
  obtain ⟨ao, cap, hv, ho, hrows⟩ := hln.rows
  injection hv with e1 e2 e3
  subst e1 e3
  have hblk : ∃ c : Array Value, Blk w gR c 100 := own_block ho rfl
  obtain ⟨_, _, g', hv', hg', hrd⟩ := hln.rows.read
  injection hv' with f1 f2 f3
  have hgr : ∀ r (h : r < xs.length), w.cell? ⟨gR, r, none⟩ = some xs[r].1 := fun r hr => by
    obtain ⟨aq, cq, hx1, hc, _⟩ := hrd r hr
    obtain ⟨h1, _⟩ := hg' (by omega)
    rw [h1] at f1
    injection f1 with f1
    injection f1 with f1
    subst f1
    rw [hc, hx1]
  refine ⟨⟨fun r hr _ => (hrows _ (List.getElem_mem hr)).below hb (Nat.le_refl _), fun r hr g hg => (hln.fresh.1 _ (List.getElem_mem hr) g hg).1, fun r r' hr hr' hne g hg hg' => ?_, ⟨by simp, .inl ⟨rfl, rfl⟩⟩, fun r hr _ g hg => by simp [Value.ownBlock] at hg, ⟨none, 0, rfl, ⟨by simp, .inl ⟨rfl, rfl⟩⟩, fun x hx => by simp at hx⟩, fun x hx => by simp at hx, fun x hx => by simp at hx⟩, ⟨hE, hrow, hptr, hinj⟩, fun r hr => ?_, ?_, hbx, hb.mono hB, hlow, hB⟩
  · have hpw := List.pairwise_iff_getElem.1 hln.fresh.2
    rcases Nat.lt_or_gt_of_ne hne with h | h
    · exact hpw r r' hr hr' h g hg hg'
    · exact hpw r' r hr' hr h g hg' hg
  · obtain ⟨c, hc⟩ := hblk
    rw [← hgr r hr, (hc.below hb hc.lt).cell, hc.cell]
  · obtain ⟨c, hc⟩ := hblk
    exact ⟨c, hc.below hb hc.lt⟩

/-- 'append(s, x...)', where x has no elements. -/
theorem wpList_appendNone {P : Program} {ops : Array Oper} {rest : List Oper} {o : Oper} {a : Act} {Q : Exit → Act → World → Prop} (hgd : o.guard = none) (s x : Operand) (t : TypeId)
    (ho : o.op = .call { callee := .builtin .append, args := #[s, x], argTypes := #[t, t] }) (e : TypeId) (i : TypeInfo) (ht : P.underlying t = some (.slice e)) (hi : P.info? e = some i) (w : World) (base ad : Option Addr) (n cap c : Nat) (hle : n ≤ cap)
    (hs : a.eval s = .slice base n cap) (hx : a.eval x = .slice ad 0 c) (h : wpList P ops Q rest (a.put o.dst (.slice base n cap)) w) : wpList P ops Q (o :: rest) a w := by
  refine wpList_plain hgd fun K hK => ?_
  unfold Oper.wp execOp
  simp only [ho, resolve, invoke, builtin, Sem.run_bind, Sem.run_pure, Result.andThen_ok, List.map_toArray, List.map_cons, List.map_nil, hs, hx, append_none w t o.type e i ht hi base ad n cap c hle]
  exact hK _ _ h
end Go.Proofs.Ytafanlbfbfbeoaa

/- smartWrap's loop: its steps by cases. -/
namespace Go.Proofs.Ytafanlbfbfbeoaa
open Go.RowKit

section
variable {o lx ly hx hy : Int} {rows : List (List (Int × Int))} {d : Array Nat} {oe : Nat → Nat} {s : WSt} {e : Nat}

theorem stepW_used (hi : s.i < 2 * d.size) (he : d[s.i % d.size]! = e) (hu : s.used e = true) : stepW o lx ly hx hy rows d oe s = { s with i := s.i + 1 } := by
  unfold stepW; rw [if_neg (by omega)]; simp only [he]; rw [if_pos hu]
theorem stepW_take (hi : s.i < 2 * d.size) (he : d[s.i % d.size]! = e) (hu : s.used e = false) (ho : e % 2 = 1) (hc : s.cur = []) : stepW o lx ly hx hy rows d oe s = { s with i := s.i + 1, used := fun x => s.used x || x == e, cur := dbl rows[e / 2]!, last := e / 2 } := by
  unfold stepW; rw [if_neg (by omega)]; simp only [he]; rw [if_neg (by simp [hu]), if_pos ho, if_pos hc]
theorem stepW_odd (hi : s.i < 2 * d.size) (he : d[s.i % d.size]! = e) (hu : s.used e = false) (ho : e % 2 = 1) (hc : s.cur ≠ []) : stepW o lx ly hx hy rows d oe s = { s with i := s.i + 1 } := by
  unfold stepW; rw [if_neg (by omega)]; simp only [he]; rw [if_neg (by simp [hu]), if_pos ho, if_neg hc]
theorem stepW_none (hi : s.i < 2 * d.size) (he : d[s.i % d.size]! = e) (hu : s.used e = false) (ho : e % 2 = 0) (hc : s.cur = []) : stepW o lx ly hx hy rows d oe s = { s with i := s.i + 1 } := by
  unfold stepW; rw [if_neg (by omega)]; simp only [he]; rw [if_neg (by simp [hu]), if_neg (by omega), if_pos hc]
theorem stepW_done (hi : s.i < 2 * d.size) (he : d[s.i % d.size]! = e) (hu : s.used e = false) (ho : e % 2 = 0) (hc : s.cur ≠ []) (hp : dblP (rows[e / 2]!.head!) = s.cur.head!) : stepW o lx ly hx hy rows d oe s =
    { i := 0, used := fun x => s.used x || x == e, cur := [], last := 0, res := s.res ++ [s.cur ++ aroundL o lx ly hx hy (endE lx ly hx hy rows e) (endE lx ly hx hy rows (2 * s.last + 1)) ++ [dblP (rows[e / 2]!.head!)]] } := by
  unfold stepW; rw [if_neg (by omega)]; simp only [he]; rw [if_neg (by simp [hu]), if_neg (by omega), if_neg hc, if_pos hp]
theorem stepW_more (hi : s.i < 2 * d.size) (he : d[s.i % d.size]! = e) (hu : s.used e = false) (ho : e % 2 = 0) (hc : s.cur ≠ []) (hp : dblP (rows[e / 2]!.head!) ≠ s.cur.head!) : stepW o lx ly hx hy rows d oe s =
    { s with i := oe e + 1, used := fun x => s.used x || x == e || x == e + 1, cur := s.cur ++ aroundL o lx ly hx hy (endE lx ly hx hy rows e) (endE lx ly hx hy rows (2 * s.last + 1)) ++ dbl rows[e / 2]!, last := e / 2 } := by
  unfold stepW; rw [if_neg (by omega)]; simp only [he]; rw [if_neg (by simp [hu]), if_neg (by omega), if_neg hc, if_neg hp]

theorem aroundL_eq (x1 y1 x2 y2 : Int) (st1 st2 st1' st2' : Bool) (s1 s2 i1 i2 i1' i2' : Nat) : aroundL o lx ly hx hy ⟨x1, y1, st1, s1, i1⟩ ⟨x2, y2, st2, s2, i2⟩ = aroundL o lx ly hx hy ⟨x1, y1, st1', s1, i1'⟩ ⟨x2, y2, st2', s2, i2'⟩ := rfl
end

/-- The cells of the ring under way at its beginning and its end. -/
theorem cur_cells {w : World} {B : Nat} {a : Option Addr} {cap cl : Nat} {cur : List (Int × Int)} (h : w.ownsRow B 69 2 (.slice a cl cap) cl (cur.flatMap hE)) (hcl : cl = cur.length) (h1 : 1 ≤ cl) {z0 z : Int × Int} (hz0 : Sm z0.1 ∧ Sm z0.2) (hz : Sm z.1 ∧ Sm z.2) (e0 : cur.head! = dblP z0) (e1 : cur.getLast! = dblP z) :
    ∃ gc, a = some ⟨gc, 0, none⟩ ∧ gc < w.heap.size ∧ w.cell? ⟨gc, 0, none⟩ = some (.float .f64 (F z0.1)) ∧ w.cell? ⟨gc, 1, none⟩ = some (.float .f64 (F z0.2)) ∧ w.cell? ⟨gc, (cl - 1) * 2, none⟩ = some (.float .f64 (F z.1)) ∧ w.cell? ⟨gc, (cl - 1) * 2 + 1, none⟩ = some (.float .f64 (F z.2)) := by
  subst hcl
  obtain ⟨gc, hg, hc⟩ := hpts_read h
  obtain ⟨h2, h3, _⟩ := hg (by omega)
  have a0 := hc 0 (by omega)
  have a1 := hc (cur.length - 1) (by omega)
  rw [← head_at cur (by omega), e0] at a0
  rw [← last_at cur (cur.length - 1) (by omega) (by omega), e1] at a1
  unfold Sm at hz0 hz
  refine ⟨gc, h2, h3, ?_⟩
  rw [F_H (n := z0.1) (by omega), F_H (n := z0.2) (by omega), F_H (n := z.1) (by omega), F_H (n := z.2) (by omega)]
  exact ⟨a0.1, a0.2, a1.1, a1.2⟩

theorem drop_news {w : World} {g cap M : Nat} {T : TypeId} {a b : Int × Int} {l : List (Int × Int)} (h : w.ownsRow 0 T 2 (.slice (some ⟨g, 0, none⟩) M cap) M ((a :: b :: l).flatMap hE)) :
    ∀ j u, (l.flatMap hE)[j]? = some u → w.cell? ((⟨g, 4, none⟩ : Addr).add j) = some u := by
  intro j u hj
  have hc := h.cells rfl (j + 4) u (by
    rw [List.flatMap_cons, List.flatMap_cons, ← List.append_assoc, List.getElem?_append_right (by simp [hE])]
    simpa [hE] using hj)
  have e1 : (⟨g, 0, none⟩ : Addr).add (j + 4) = ⟨g, j + 4, none⟩ := by unfold Addr.add; split <;> simp_all
  have e2 : (⟨g, 4, none⟩ : Addr).add j = ⟨g, j + 4, none⟩ := by unfold Addr.add; split <;> simp_all <;> omega
  rw [e1] at hc
  rw [e2]
  exact hc

theorem hE_one {r : List (Int × Int)} : ∀ u ∈ r.flatMap hE, u.oneCell' = true := by
  intro u hu
  obtain ⟨p, -, hp⟩ := List.mem_flatMap.1 hu
  simp only [hE, List.mem_cons, List.not_mem_nil, or_false] at hp
  rcases hp with rfl | rfl <;> rfl
theorem hE_len (r : List (Int × Int)) : (r.flatMap hE).length = r.length * 2 := by
  induction r with
  | nil => rfl
  | cons p r ih => rw [List.flatMap_cons, List.length_append, ih]; simp [hE]; omega

theorem own_two (W : World) (p z : Int × Int) : (W.alloc (.cells #[.float .f64 (F p.1), .float .f64 (F p.2), .float .f64 (F z.1), .float .f64 (F z.2)] 69)).ownsRow W.heap.size 69 2 (.slice (some ⟨W.heap.size, 0, none⟩) 2 2) 2 ([(p.1, p.2), (z.1, z.2)].flatMap ptE) :=
  own_new W W.heap.size (Nat.le_refl _) 69 2 2 [.float .f64 (F p.1), .float .f64 (F p.2), .float .f64 (F z.1), .float .f64 (F z.2)] rfl (by omega)

set_option maxRecDepth 100000 in
theorem pointEq_any (a b c e : Int) (h1 : Sm a) (h2 : Sm b) (h3 : Sm c) (h4 : Sm e) (w : World) : Calls Try.prog 55 #[.agg #[.float .f64 (F a), .float .f64 (F b)], .agg #[.float .f64 (F c), .float .f64 (F e)]] w
    fun r w' => r = .returned (.bool (decide (a = c ∧ b = e))) ∧ Below w.heap.size w w' := by
  go_enter Try.func55, Try.ntmps55
  go_wp2
  all_goals
    go_ret
    refine ⟨?_, by repeat (first | exact Below.refl _ _ | refine Below.drew ?_ | refine below_drewN ?_ _ | refine below_alloc ?_ _ (Nat.le_refl _))⟩
    rename_i hac
    simp [hac]
end Go.Proofs.Ytafanlbfbfbeoaa
