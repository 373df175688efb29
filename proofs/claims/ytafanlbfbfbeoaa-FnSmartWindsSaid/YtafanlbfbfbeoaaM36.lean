/- What the proofs over smartclip lean on, part 37 of 48. -/
import Derived.Test.YtafanlbfbfbeoaaM00
import Derived.StillTail
import Derived.KernelRfl
import Derived.Test.YtafanlbfbfbeoaaM03
import Derived.Test.YtafanlbfbfbeoaaM06
import Derived.Deep.DeepCutAuto
import Derived.Deep.LoopGhost
import Derived.Test.YtafanlbfbfbeoaaM02
import Derived.BigRegion

/- A statement whose order Go leaves open, of operations that only read or make memory, and then a tail in one order: one goal for each operation, none for each order. -/
namespace Go.Proofs.Ytafanlbfbfbeoaa
open Go.RowKit

/-- Values laid into slots, one behind the other. -/
def putAll (a : Act) : List (Option Tmp) → Nat → (Nat → Value) → Act
  | [], _, _ => a
  | d :: ds, k, vs => putAll (a.put d (vs k)) ds (k + 1) vs

/-- The same, of those that are listed. -/
def putL (li : Nat → Bool) (vs : Nat → Value) (a : Act) : List (Option Tmp) → Nat → Act
  | [], _ => a
  | d :: ds, k => putL li vs (if li k then a.put d (vs k) else a) ds (k + 1)

/-- What is known of values, by number. -/
def DepL (D : Nat → Value → World → Prop) (vs : Nat → Value) (w : World) : List Nat → Prop
  | [] => True
  | j :: js => D j (vs j) w ∧ DepL D vs w js

theorem DepL.get {D : Nat → Value → World → Prop} {vs : Nat → Value} {w : World} {l : List Nat} (h : ∀ j ∈ l, D j (vs j) w) : DepL D vs w l := by
  induction l with
  | nil => trivial
  | cons j js ih => exact ⟨h j (by simp), ih fun k hk => h k (by simp [hk])⟩

theorem DepL.at {D : Nat → Value → World → Prop} {vs : Nat → Value} {w : World} {l : List Nat} (h : DepL D vs w l) (j : Nat) (hj : l.contains j = true) : D j (vs j) w := by
  induction l with
  | nil => simp at hj
  | cons i is ih =>
    by_cases hij : j = i
    · subst hij; exact h.1
    · refine ih h.2 ?_
      simpa [hij] using hj

def NoPan (Q : Exit → Act → World → Prop) : Exit → Act → World → Prop
  | .panic _, _, _ => False
  | e, a, w => Q e a w

def depsOf (o : Oper) : List Nat := (o.after.toList.filter fun e => Region.binds .any e).map (·.on)

/-- Which of the statement's operations writes a slot. -/
def lookD : List (Option Tmp) → Nat → Tmp → Option Nat
  | [], _, _ => none
  | d :: ds, k, t => if d = some t then some k else lookD ds (k + 1) t

/-- What the operands read as. -/
def rho (a0 : Act) (ds : List (Option Tmp)) (vs : Nat → Value) : Operand → Value
  | .tmp t => match lookD ds 0 t with
    | some i => vs i
    | none => a0.tmps.getD t undef
  | x => a0.eval x

@[go_sem ↓] theorem rho_tmp (a0 : Act) (ds : List (Option Tmp)) (vs : Nat → Value) (t : Tmp) : rho a0 ds vs (.tmp t) = match lookD ds 0 t with | some i => vs i | none => a0.tmps.getD t undef := rfl
@[go_sem ↓] theorem rho_const (a0 : Act) (ds : List (Option Tmp)) (vs : Nat → Value) (v : Value) : rho a0 ds vs (.const v) = v := rfl
@[go_sem ↓] theorem rho_global (a0 : Act) (ds : List (Option Tmp)) (vs : Nat → Value) (g : Nat) : rho a0 ds vs (.global g) = .pointer (some ⟨g, 0, none⟩) := rfl
@[go_sem ↓] theorem rho_func (a0 : Act) (ds : List (Option Tmp)) (vs : Nat → Value) (f : FuncId) : rho a0 ds vs (.func f) = .func (.func f) #[] #[] := rfl
@[go_sem ↓] theorem lookD_nil (k : Nat) (t : Tmp) : lookD [] k t = none := rfl
@[go_sem ↓] theorem lookD_cons (d : Option Tmp) (ds : List (Option Tmp)) (k : Nat) (t : Tmp) : lookD (d :: ds) k t = if d = some t then some k else lookD ds (k + 1) t := rfl

def isB (want : Bool) : Value → Bool
  | .bool b => b == want
  | _ => false

@[go_sem] theorem isB_bool (want b : Bool) : isB want (.bool b) = (b == want) := rfl

def wantR (ρ : Operand → Value) (ops : Array Oper) (o : Oper) : Bool :=
  match o.guard with
  | none => true
  | some (j, want) => match (ops[j]?).bind (·.dst) with
    | some d => isB want (ρ (.tmp d))
    | none => false

@[go_sem] theorem wantR_none (ρ : Operand → Value) (ops : Array Oper) (d : Option Tmp) (op : Op) (t : TypeId) (p : String) (e : Array Edge) : wantR ρ ops ⟨d, op, t, p, e, none⟩ = true := rfl
@[go_sem] theorem wantR_some (ρ : Operand → Value) (ops : Array Oper) (d : Option Tmp) (op : Op) (t : TypeId) (p : String) (e : Array Edge) (j : Nat) (want : Bool) :
    wantR ρ ops ⟨d, op, t, p, e, some (j, want)⟩ = match (ops[j]?).bind (·.dst) with | some d => isB want (ρ (.tmp d)) | none => false := rfl

@[go_sem ↓] theorem execOp_call_rho (ρ : Operand → Value) (dst : Option Tmp) (f : FuncId) (xs : Array Operand) (ats : Array TypeId) (ty : TypeId) (pos : String) (after : Array Edge) (guard : Option (Nat × Bool)) (hf : ρ (.func f) = .func (.func f) #[] #[]) :
    execOp ρ { dst, op := .call { callee := .value (.func f), args := xs, argTypes := ats }, type := ty, pos, after, guard } = callFunc f (#[] ++ xs.map ρ ++ #[]) := by
  unfold execOp resolve
  simp only [hf]
  rfl

/-- What an operation comes to, its value told. -/
def opUpon (P : Program) (Q : Exit → Act → World → Prop) (R : Value → World → Prop) : Result Next → Prop
  | .ok (.value v) w' => R v w'
  | .ok .skip w' => R undef w'
  | .ok (.enter f args) w' => Calls P f args w' fun
    | .returned v, w'' => R v w''
    | .panicked _, _ => False
    | .outgrown, _ => LetsOut Q
  | .ok (.row row args) w' => Rows P row args w' R
  | _ => False

@[go_sem] theorem opUpon_value (P : Program) (Q : Exit → Act → World → Prop) (R : Value → World → Prop) (v : Value) (w : World) : opUpon P Q R (.ok (.value v) w) = R v w := rfl
@[go_sem] theorem opUpon_skip (P : Program) (Q : Exit → Act → World → Prop) (R : Value → World → Prop) (w : World) : opUpon P Q R (.ok .skip w) = R undef w := rfl
@[go_sem] theorem opUpon_enter (P : Program) (Q : Exit → Act → World → Prop) (R : Value → World → Prop) (f : FuncId) (args : Array Value) (w : World) : opUpon P Q R (.ok (.enter f args) w) = Calls P f args w fun
    | .returned v, w'' => R v w''
    | .panicked _, _ => False
    | .outgrown, _ => LetsOut Q := rfl
@[go_sem] theorem opUpon_row (P : Program) (Q : Exit → Act → World → Prop) (R : Value → World → Prop) (row : String) (args : Array Value) (w : World) : opUpon P Q R (.ok (.row row args) w) = Rows P row args w R := rfl

/-- What one operation has to do. -/
def OpOk (P : Program) (ops : Array Oper) (Q : Exit → Act → World → Prop) (D : Nat → Value → World → Prop) (k : Nat) (o : Oper) (ρ : Operand → Value) (w : World) : Prop :=
  ∀ R : Value → World → Prop, (∀ v w', Below w.heap.size w w' → D k v w' → R v w') →
    if wantR ρ ops o = true then opUpon P Q R ((execOp ρ o).run P w) else R undef w

theorem run_callFunc_body {P : Program} {f : FuncId} {fn : Func} (hf : P.funcs[f]? = some fn) (hname : (fn.name == "runtime.NumGoroutine") = false) (hb : fn.body.isSome = true) (args : Array Value) (w : World) :
    (callFunc f args).run P w = .ok (.enter f args) w := by
  have h1 : fn.name ≠ "runtime.NumGoroutine" := by simpa using hname
  obtain ⟨b, h2⟩ := Option.isSome_iff_exists.1 hb
  simp [callFunc, hf, h1, h2]

/-- A call, by its contract. -/
theorem opOk_call {P : Program} {ops : Array Oper} {Q : Exit → Act → World → Prop} {D : Nat → Value → World → Prop} {k : Nat} {ρ : Operand → Value} {w : World} {dst : Option Tmp} {f : FuncId} {xs : Array Operand} {ats : Array TypeId} {ty : TypeId} {pos : String} {after : Array Edge}
    (hρ : ρ (.func f) = .func (.func f) #[] #[]) {fn : Func} (hf : P.funcs[f]? = some fn) (hname : (fn.name == "runtime.NumGoroutine") = false) (hb : fn.body.isSome = true) {args : Array Value} (hargs : xs.map ρ = args)
    (h : Calls P f args w fun e w' => ∃ v, e = .returned v ∧ Below w.heap.size w w' ∧ D k v w') :
    OpOk P ops Q D k ⟨dst, .call { callee := .value (.func f), args := xs, argTypes := ats }, ty, pos, after, none⟩ ρ w := by
  intro R hR
  rw [wantR_none, if_pos rfl, execOp_call_rho (hf := hρ), hargs]
  have e : #[] ++ args ++ #[] = args := by simp
  rw [e, run_callFunc_body hf hname hb]
  refine h.mono ?_
  rintro e w' ⟨v, rfl, hbl, hd⟩
  exact hR v w' hbl hd

def OpsOk (P : Program) (ops : Array Oper) (Q : Exit → Act → World → Prop) (D : Nat → Value → World → Prop) (w0 : World) (A : (Nat → Value) → Operand → Value) : Nat → List Oper → Prop
  | _, [] => True
  | k, o :: l => (∀ vs w, Below w0.heap.size w0 w → DepL D vs w (depsOf o) → OpOk P ops Q D k o (A vs) w) ∧ OpsOk P ops Q D w0 A (k + 1) l

theorem OpsOk.get {P : Program} {ops : Array Oper} {Q : Exit → Act → World → Prop} {D : Nat → Value → World → Prop} {w0 : World} {A : (Nat → Value) → Operand → Value} : ∀ (l : List Oper) (k i : Nat) (o : Oper), OpsOk P ops Q D w0 A k l → l[i]? = some o →
    ∀ vs w, Below w0.heap.size w0 w → DepL D vs w (depsOf o) → OpOk P ops Q D (k + i) o (A vs) w
  | [], _, _, _, _, h => by simp at h
  | o' :: l, k, 0, o, h, ho => by simp at ho; subst ho; exact h.1
  | o' :: l, k, i + 1, o, h, ho => by
    have := OpsOk.get l (k + 1) i o h.2 (by simpa using ho)
    rwa [show k + (i + 1) = k + 1 + i from by omega]

/-- The checks on a statement's form. -/
def growB (ops : Array Oper) (n m : Nat) : Bool :=
  ((ops.toList.take n).all fun o => match o.dst with | some t => decide (t < m) | none => true) && Region.noSelect ops && decide (n < ops.size) && Region.sinkB .any ops n && Region.chainB .any ops n &&
  (List.range n).all (fun i => (List.range n).all fun j => decide (i = j) || decide (((ops[i]?).bind (·.dst)) = none) || decide ((ops[i]?).bind (·.dst) ≠ (ops[j]?).bind (·.dst))) &&
  (List.range n).all (fun i => (List.range n).all fun j => match ops[i]?, (ops[j]?).bind (·.dst) with
    | some o, some d => !(o.looksAt ops).contains d || Region.waitsFor .any ops i j
    | _, _ => true) &&
  (List.range n).all (fun i => match ops[i]? with
    | some o => o.after.toList.all fun e => decide (e.on < i)
    | none => true) &&
  Region.seqB .any ops (ops.size - n) n ((List.replicate n true ++ List.replicate (ops.size - n) false).toArray)

theorem put_size (a : Act) (d : Option Tmp) (v : Value) : (a.put d v).tmps.size = a.tmps.size := by
  cases d <;> simp [Act.put]

theorem put_defers (a : Act) (d : Option Tmp) (v : Value) : (a.put d v).defers = a.defers := by
  cases d <;> simp [Act.put]

theorem putL_put {li : Nat → Bool} {vs : Nat → Value} (d : Option Tmp) (v : Value) : ∀ (ds : List (Option Tmp)) (a : Act) (k : Nat),
    (∀ (j : Nat) (x : Option Tmp), ds[j]? = some x → ∀ t, d = some t → x ≠ some t) → putL li vs (a.put d v) ds k = (putL li vs a ds k).put d v
  | [], _, _, _ => rfl
  | x :: ds, a, k, h => by
    have hx : ∀ t, d = some t → x ≠ some t := h 0 x rfl
    have ih := fun a' => putL_put (li := li) (vs := vs) d v ds a' (k + 1) fun j y hy => h (j + 1) y (by simpa using hy)
    simp only [putL]
    by_cases hk : li k = true
    · simp only [hk, if_true]
      rw [← Act.put_comm a (vs k) v (fun t ht hd => hx t hd ht), ih]
    · simp only [hk]
      exact ih a

theorem putL_set {li : Nat → Bool} {vs : Nat → Value} (i : Nat) (v : Value) : ∀ (ds : List (Option Tmp)) (a : Act) (k : Nat) (d : Option Tmp), k ≤ i → ds[i - k]? = some d → li i = false →
    (∀ (j : Nat) (x : Option Tmp), ds[j]? = some x → j ≠ i - k → ∀ t, d = some t → x ≠ some t) →
    putL (fun j => if j = i then true else li j) (fun j => if j = i then v else vs j) a ds k = (putL li vs a ds k).put d v
  | [], _, _, _, _, h, _, _ => by simp at h
  | x :: ds, a, k, d, hk, hd, hli, hne => by
    simp only [putL]
    by_cases hki : k = i
    · subst hki
      have hxd : x = d := by simpa using hd
      subst hxd
      simp only [if_true, hli, Bool.false_eq_true, if_false]
      have h1 : ∀ (ds : List (Option Tmp)) (a : Act) (m : Nat), k < m → putL (fun j => if j = k then true else li j) (fun j => if j = k then v else vs j) a ds m = putL li vs a ds m := by
        intro ds
        induction ds with
        | nil => intro a m _; rfl
        | cons y ys ih =>
          intro a m hm
          have hmk : m ≠ k := by omega
          simp only [putL, hmk, if_false]
          exact ih _ _ (by omega)
      rw [h1 _ _ _ (by omega)]
      exact putL_put x v ds a (k + 1) fun j y hy => hne (j + 1) y (by simpa using hy) (by omega)
    · have hik : i - k = (i - (k + 1)) + 1 := by omega
      have hd' : ds[i - (k + 1)]? = some d := by rw [hik] at hd; simpa using hd
      simp only [hki, if_false]
      exact putL_set i v ds _ (k + 1) d (by omega) hd' hli fun j y hy hj => hne (j + 1) y (by simpa using hy) (by omega)

/-- Two frames that an operation can't tell apart. -/
def AgreeOn (ops : Array Oper) (o : Oper) (a a' : Act) : Prop := a.tmps.size = a'.tmps.size ∧ ∀ t ∈ o.looksAt ops, a.tmps[t]? = a'.tmps[t]?

theorem AgreeOn.put {ops : Array Oper} {o : Oper} {a a' : Act} (h : AgreeOn ops o a a') (d : Option Tmp) (v : Value) : AgreeOn ops o (a.put d v) (a'.put d v) := by
  refine ⟨by rw [put_size, put_size]; exact h.1, fun t ht => ?_⟩
  cases d with
  | none => exact h.2 t ht
  | some d =>
    simp only [Act.put]
    rw [Array.getElem?_setIfInBounds, Array.getElem?_setIfInBounds, h.1, h.2 t ht]

theorem AgreeOn.putRight {ops : Array Oper} {o : Oper} {a a' : Act} (h : AgreeOn ops o a a') (d : Option Tmp) (hd : ∀ t, d = some t → t ∉ o.looksAt ops) (v : Value) : AgreeOn ops o a (a'.put d v) := by
  refine ⟨by rw [put_size]; exact h.1, fun t ht => ?_⟩
  cases d with
  | none => exact h.2 t ht
  | some d =>
    have : d ≠ t := fun e => hd d rfl (e ▸ ht)
    simp only [Act.put]
    rw [Array.getElem?_setIfInBounds_ne this]
    exact h.2 t ht

theorem putL_agree {ops : Array Oper} {o : Oper} {li : Nat → Bool} {vs : Nat → Value} : ∀ (ds : List (Option Tmp)) (a a' : Act) (k : Nat), AgreeOn ops o a a' →
    (∀ (j : Nat) (x : Option Tmp), ds[j]? = some x → li (k + j) = false → ∀ t, x = some t → t ∉ o.looksAt ops) → AgreeOn ops o (putL li vs a ds k) (putAll a' ds k vs)
  | [], _, _, _, h, _ => h
  | x :: ds, a, a', k, h, hn => by
    simp only [putL, putAll]
    refine putL_agree ds _ _ (k + 1) ?_ fun j y hy hl => hn (j + 1) y (by simpa using hy) (by rwa [show k + (j + 1) = k + 1 + j from by omega])
    by_cases hk : li k = true
    · simp only [hk, if_true]; exact h.put x _
    · simp only [hk]
      exact h.putRight x (hn 0 x rfl (by simpa using hk)) _

theorem AgreeOn.exec {ops : Array Oper} {o : Oper} {a a' : Act} (h : AgreeOn ops o a a') (hs : ∀ cs b, o.op ≠ .select cs b) : execOp a.eval o = execOp a'.eval o :=
  execOp_congr o hs fun x hx => by
    cases x with
    | tmp t =>
      have ht : t ∈ o.looksAt ops := List.mem_append_left _ (List.mem_filterMap.2 ⟨.tmp t, by simpa using hx, rfl⟩)
      have := h.2 t ht
      simp only [Act.eval, Array.getD_eq_getD_getElem?, this]
    | _ => rfl

theorem AgreeOn.wants {ops : Array Oper} {o : Oper} {a a' : Act} (h : AgreeOn ops o a a') : Region.wanted o (yielded ops a.tmps) = Region.wanted o (yielded ops a'.tmps) := by
  unfold Region.wanted
  cases hg : o.guard with
  | none => rfl
  | some gw =>
    obtain ⟨g, want⟩ := gw
    have : yielded ops a.tmps g = yielded ops a'.tmps g := by
      unfold yielded
      cases ht : (ops[g]?).bind (·.dst) with
      | none => rfl
      | some t =>
        have hm : t ∈ o.looksAt ops := List.mem_append_right _ (by simp [hg, ht])
        simp only [Option.bind_some]
        rw [h.2 t hm]
    simp only [this]

theorem put_same {A a : Act} {d : Option Tmp} {u v : Value} (hs : A.tmps.size = a.tmps.size) (h : A.put d u = A.put d v) : a.put d u = a.put d v := by
  cases d with
  | none => rfl
  | some d =>
    by_cases hd : d < A.tmps.size
    · have h1 : (A.put (some d) u).tmps[d]? = (A.put (some d) v).tmps[d]? := by rw [h]
      simp [Act.put, hd] at h1
      rw [h1]
    · simp only [Act.put]
      have hd' : a.tmps.size ≤ d := Nat.le_trans (Nat.le_of_eq hs.symm) (Nat.le_of_not_lt hd)
      rw [Array.setIfInBounds_eq_of_size_le hd', Array.setIfInBounds_eq_of_size_le hd']

theorem putAll_size : ∀ (ds : List (Option Tmp)) (a : Act) (k : Nat) (vs : Nat → Value), (putAll a ds k vs).tmps.size = a.tmps.size
  | [], _, _, _ => rfl
  | d :: ds, a, k, vs => by simp only [putAll]; rw [putAll_size ds, put_size]

theorem lookD_none : ∀ (ds : List (Option Tmp)) (k : Nat) (t : Tmp), (∀ d ∈ ds, d ≠ some t) → lookD ds k t = none
  | [], _, _, _ => rfl
  | d :: ds, k, t, h => by
    simp only [lookD]
    rw [if_neg (h d (by simp))]
    exact lookD_none ds (k + 1) t fun x hx => h x (by simp [hx])

theorem putAll_none : ∀ (ds : List (Option Tmp)) (a : Act) (k : Nat) (vs : Nat → Value) (t : Tmp), (∀ d ∈ ds, d ≠ some t) → (putAll a ds k vs).tmps[t]? = a.tmps[t]?
  | [], _, _, _, _, _ => rfl
  | d :: ds, a, k, vs, t, h => by
    simp only [putAll]
    rw [putAll_none ds _ _ _ t fun x hx => h x (by simp [hx])]
    cases d with
    | none => rfl
    | some d =>
      have : d ≠ t := fun e => h (some d) (by simp) (by rw [e])
      simp only [Act.put]
      rw [Array.getElem?_setIfInBounds_ne this]

theorem putAll_look : ∀ (ds : List (Option Tmp)) (a : Act) (k : Nat) (vs : Nat → Value) (t : Tmp), (∀ d ∈ ds, ∀ t, d = some t → t < a.tmps.size) →
    (∀ (i j : Nat) (x y : Option Tmp), ds[i]? = some x → ds[j]? = some y → i ≠ j → ∀ t, x = some t → y ≠ some t) →
    (putAll a ds k vs).tmps[t]? = match lookD ds k t with | some i => some (vs i) | none => a.tmps[t]?
  | [], _, _, _, _, _, _ => rfl
  | d :: ds, a, k, vs, t, hb, hd => by
    simp only [putAll, lookD]
    by_cases h : d = some t
    · rw [if_pos h]
      subst h
      have hnot : ∀ x ∈ ds, x ≠ some t := fun x hx => by
        obtain ⟨j, hj, rfl⟩ := List.getElem_of_mem hx
        exact hd 0 (j + 1) (some t) ds[j] rfl (by simp [hj]) (by omega) t rfl
      rw [putAll_none ds _ _ _ t hnot]
      have := hb (some t) (by simp) t rfl
      simp [Act.put, this]
    · rw [if_neg h]
      rw [putAll_look ds (a.put d (vs k)) (k + 1) vs t (fun x hx u hu => by rw [put_size]; exact hb x (by simp [hx]) u hu)
        (fun i j x y hi hj hij => hd (i + 1) (j + 1) x y (by simpa using hi) (by simpa using hj) (by omega))]
      have : (a.put d (vs k)).tmps[t]? = a.tmps[t]? := by
        cases d with
        | none => rfl
        | some d =>
          have : d ≠ t := fun e => h (by rw [e])
          simp only [Act.put]
          rw [Array.getElem?_setIfInBounds_ne this]
      rw [this]

theorem rho_eval {a0 : Act} {ds : List (Option Tmp)} {vs : Nat → Value} (hb : ∀ d ∈ ds, ∀ t, d = some t → t < a0.tmps.size)
    (hd : ∀ (i j : Nat) (x y : Option Tmp), ds[i]? = some x → ds[j]? = some y → i ≠ j → ∀ t, x = some t → y ≠ some t) : (putAll a0 ds 0 vs).eval = rho a0 ds vs := by
  funext x
  cases x with
  | tmp t =>
    simp only [Act.eval, rho, Array.getD_eq_getD_getElem?]
    rw [putAll_look ds a0 0 vs t hb hd]
    cases lookD ds 0 t <;> rfl
  | _ => rfl

theorem rho_want {a0 : Act} {ds : List (Option Tmp)} {vs : Nat → Value} {ops : Array Oper} {o : Oper} (he : (putAll a0 ds 0 vs).eval = rho a0 ds vs) :
    Region.wanted o (yielded ops (putAll a0 ds 0 vs).tmps) = wantR (rho a0 ds vs) ops o := by
  unfold Region.wanted wantR
  cases hg : o.guard with
  | none => rfl
  | some gw =>
    obtain ⟨g, want⟩ := gw
    simp only
    cases ht : (ops[g]?).bind (·.dst) with
    | none => simp [yielded, ht]
    | some t =>
      have h1 : (putAll a0 ds 0 vs).eval (.tmp t) = rho a0 ds vs (.tmp t) := by rw [he]
      simp only [Act.eval, Array.getD_eq_getD_getElem?] at h1
      simp only [yielded, ht, Option.bind_some]
      rw [← h1]
      cases hv : (putAll a0 ds 0 vs).tmps[t]? with
      | none => rfl
      | some v => cases v <;> rfl

theorem opOk_wp {P : Program} {ops : Array Oper} {Q : Exit → Act → World → Prop} {D : Nat → Value → World → Prop} {i : Nat} {o : Oper} {A a : Act} {ρ : Operand → Value} {w : World} {K : Act → World → Prop}
    (hi : ops[i]? = some o) (hs : ∀ cs b, o.op ≠ .select cs b) (hag : AgreeOn ops o a A) (he : A.eval = ρ) (hwr : Region.wanted o (yielded ops A.tmps) = wantR ρ ops o) (h : OpOk P ops Q D i o ρ w)
    (hK : ∀ v w', Below w.heap.size w w' → D i v w' → K (a.put o.dst v) w') : wpOp P ops Q i K a w := by
  have h := h (fun v w' => K (a.put o.dst v) w') hK
  unfold wpOp
  simp only [hi]
  rw [hag.wants, hwr]
  split at h
  · rename_i hw
    rw [if_pos hw]
    refine .inl ?_
    unfold Oper.wp
    rw [hag.exec hs, he]
    generalize (execOp ρ o).run P w = r at *
    cases r with
    | ok n w' =>
      cases n <;> simp only [Oper.upon, opUpon] at h ⊢
      case value u => exact h
      case skip => exact h
      case enter f args =>
        refine Calls.mono h fun e w'' he => ?_
        cases e with
        | returned u => exact he
        | panicked c => exact (he : False).elim
        | outgrown => exact he
      case row row args => exact Rows.mono h fun u w'' he => he
    | halt x w' => exact (h : False).elim
  · rename_i hw
    rw [if_neg hw]
    exact h

def unl (listed : Array Bool) (n : Nat) : Nat := ((List.range n).filter fun i => !listed.getD i false).length

theorem filter_set (listed : Array Bool) (i : Nat) (hi : i < listed.size) (hf : listed.getD i false = false) : ∀ (l : List Nat), l.Nodup →
    (l.filter fun j => !(listed.setIfInBounds i true).getD j false).length + (if i ∈ l then 1 else 0) = (l.filter fun j => !listed.getD j false).length
  | [], _ => by simp
  | j :: l, hnd => by
    have ih := filter_set listed i hi hf l (List.nodup_cons.1 hnd).2
    by_cases hji : j = i
    · subst hji
      have hnot : j ∉ l := (List.nodup_cons.1 hnd).1
      have e1 : (listed.setIfInBounds j true).getD j false = true := by simp [hi]
      rw [List.filter_cons, List.filter_cons]
      simp only [e1, hf, Bool.not_true, Bool.false_eq_true, if_false, Bool.not_false, if_true, List.length_cons, List.mem_cons, true_or]
      simp only [hnot, if_false] at ih
      omega
    · have e1 : (listed.setIfInBounds i true).getD j false = listed.getD j false := getD_set_ne false (Ne.symm hji)
      have e2 : (i ∈ j :: l) ↔ i ∈ l := by simp [Ne.symm hji]
      rw [List.filter_cons, List.filter_cons, e1]
      simp only [e2]
      cases listed.getD j false
      · simp only [Bool.not_false, if_true, List.length_cons]; omega
      · simp only [Bool.not_true, Bool.false_eq_true, if_false]; exact ih

theorem unl_set {listed : Array Bool} {n i : Nat} (hi : i < listed.size) (hin : i < n) (hf : listed.getD i false = false) : unl (listed.setIfInBounds i true) n + 1 = unl listed n := by
  have := filter_set listed i hi hf (List.range n) List.nodup_range
  simp only [List.mem_range, hin, if_true] at this
  exact this

theorem unl_zero {listed : Array Bool} {n : Nat} (h : unl listed n = 0) : ∀ i, i < n → listed.getD i false = true := by
  intro i hi
  have h1 := List.eq_nil_of_length_eq_zero h
  have h2 := List.filter_eq_nil_iff.1 h1 i (List.mem_range.2 hi)
  simpa using h2

theorem unl_pos {listed : Array Bool} {n : Nat} (h : unl listed n ≠ 0) : ∃ i, i < n ∧ listed.getD i false = false := by
  have h1 : (List.range n).filter (fun i => !listed.getD i false) ≠ [] := fun e => h (by unfold unl; rw [e]; rfl)
  obtain ⟨i, hi⟩ := List.exists_mem_of_ne_nil _ h1
  have := List.mem_filter.1 hi
  exact ⟨i, List.mem_range.1 this.1, by simpa using this.2⟩

section
variable {P : Program} {Q : Exit → Act → World → Prop} {l : List Oper} {n : Nat} {D : Nat → Value → World → Prop} {w0 : World} {a0 : Act}

theorem grow_main (hB : growB l.toArray n a0.tmps.size = true) (hD : ∀ i v w w', D i v w → Below w.heap.size w w' → D i v w')
    (hop : OpsOk P l.toArray Q D w0 (fun vs => rho a0 ((l.take n).map (·.dst)) vs) 0 (l.take n))
    (hend : ∀ vs w', Below w0.heap.size w0 w' → DepL D vs w' (List.range n) → wpList P l.toArray Q (l.drop n) (putAll a0 ((l.take n).map (·.dst)) 0 vs) w') :
    ∀ (m : Nat) (listed : Array Bool) (vs : Nat → Value) (w : World), unl listed n = m → HeadInv .any l.toArray n listed → Below w0.heap.size w0 w →
      (∀ i, i < n → listed.getD i false = true → D i (vs i) w) →
      wpAny P .any l.toArray Q (m + (l.length - n)) listed (putL (fun i => listed.getD i false) vs a0 ((l.take n).map (·.dst)) 0) w := by
  unfold growB at hB
  simp only [Bool.and_eq_true] at hB
  obtain ⟨⟨⟨⟨⟨⟨⟨⟨hbd, hsel⟩, hn0⟩, hs⟩, hc⟩, hdst⟩, hlook⟩, hback⟩, hseq⟩ := hB
  have hn : n < l.length := by simpa using hn0
  have hts : (l.take n).length = n := by rw [List.length_take]; omega
  have hops : ∀ i, i < n → ∃ o, l.toArray[i]? = some o ∧ (l.take n)[i]? = some o := fun i hi => by
    have : i < l.length := by omega
    exact ⟨l[i], by simp [this], by rw [List.getElem?_take, if_pos hi]; simp [this]⟩
  have hdsts : ∀ i o, i < n → l.toArray[i]? = some o → ((l.take n).map (·.dst))[i]? = some o.dst := fun i o hi ho => by
    obtain ⟨o', h1, h2⟩ := hops i hi
    have : o' = o := Option.some.inj (h1.symm.trans ho)
    subst this
    rw [List.getElem?_map, h2]; rfl
  have hdb : ∀ d ∈ (l.take n).map (·.dst), ∀ t, d = some t → t < a0.tmps.size := fun d hd t ht => by
    obtain ⟨o, ho, rfl⟩ := List.mem_map.1 hd
    have := List.all_eq_true.1 hbd o (by simpa using ho)
    rw [ht] at this
    simpa using this
  have hdd : ∀ (i j : Nat) (x y : Option Tmp), ((l.take n).map (·.dst))[i]? = some x → ((l.take n).map (·.dst))[j]? = some y → i ≠ j → ∀ t, x = some t → y ≠ some t := fun i j x y hx hy hij t ht => by
    have hin : i < n := by
      have h0 := (List.getElem?_eq_some_iff.1 hx).1
      rw [List.length_map, hts] at h0
      exact h0
    have hjn : j < n := by
      have h0 := (List.getElem?_eq_some_iff.1 hy).1
      rw [List.length_map, hts] at h0
      exact h0
    obtain ⟨oi, hoi, _⟩ := hops i hin
    obtain ⟨oj, hoj, _⟩ := hops j hjn
    have hx' := hdsts i oi hin hoi
    have hy' := hdsts j oj hjn hoj
    rw [hx] at hx'
    rw [hy] at hy'
    have h1 := List.all_eq_true.1 (List.all_eq_true.1 hdst i (List.mem_range.2 hin)) j (List.mem_range.2 hjn)
    simp only [hoi, hoj, Option.bind_some, hij, decide_false, Bool.false_or, Bool.or_eq_true, decide_eq_true_eq] at h1
    rw [Option.some.inj hx'] at ht
    rw [Option.some.inj hy']
    rcases h1 with h1 | h1
    · rw [h1] at ht; cases ht
    · rw [← ht]; exact fun e => h1 e.symm
  intro m
  induction m with
  | zero =>
    intro listed vs w hm inv hb hd
    have hall := unl_zero hm
    have hlist : listed = (List.replicate n true ++ List.replicate (l.toArray.size - n) false).toArray := by
      apply Array.ext
      · rw [inv.size]; simp; omega
      · intro i h1 h2
        have h1' : i < l.length := by have := inv.size; simp at this; omega
        by_cases hin : i < n
        · have := hall i hin
          simp [h1] at this
          rw [this]; simp [hin]
        · have := inv.tail i (by omega) (by simpa using h1')
          simp [h1] at this
          rw [this]; simp [List.getElem_append, hin]
    have hdl : (l.drop n).length = l.toArray.size - n := by simp
    have hput : putL (fun i => listed.getD i false) vs a0 ((l.take n).map (·.dst)) 0 = putAll a0 ((l.take n).map (·.dst)) 0 vs := by
      have : ∀ (ds : List (Option Tmp)) (a : Act) (k : Nat), k + ds.length ≤ n → putL (fun i => listed.getD i false) vs a ds k = putAll a ds k vs := by
        intro ds
        induction ds with
        | nil => intro a k _; rfl
        | cons d ds ih =>
          intro a k hk
          simp only [List.length_cons] at hk
          simp only [putL, putAll, hall k (by omega), if_true]
          exact ih _ _ (by omega)
      exact this _ _ _ (by simp; omega)
    rw [hput, Nat.zero_add, show l.length - n = (l.drop n).length from by simp]
    exact wpAny_of_seq (md := .any) (Q' := Q) (l.drop n) n listed _ w (fun j => by simp [List.getElem?_drop]) (by rw [hdl, hlist]; exact hseq)
      (hend vs w hb (DepL.get fun j hj => hd j (List.mem_range.1 hj) (hall j (List.mem_range.1 hj))))
  | succ m ih =>
    intro listed vs w hm inv hb hd
    obtain ⟨i0, hi0, hf0⟩ := unl_pos (by rw [hm]; omega : unl listed n ≠ 0)
    have hsz : listed.size = l.length := by simpa using inv.size
    have hrn : ∀ j ∈ Region.ready .any l.toArray listed, j < n := fun j hj => by
      rcases Nat.lt_or_ge j n with h | h
      · exact h
      · exact absurd hj (tail_waits hs hc (by simpa using hn) inv _ i0 rfl hi0 (getD_in (by omega) hf0) j h)
    have hne : Region.ready .any l.toArray listed ≠ [] := by
      -- the first that is not listed may come up
      have : ∃ k, (k < n ∧ listed.getD k false = false) ∧ ∀ j, j < k → listed.getD j false = true := by
        have : ∀ b, ∀ k, k ≤ b → (k < n ∧ listed.getD k false = false) → ∃ k, (k < n ∧ listed.getD k false = false) ∧ ∀ j, j < k → listed.getD j false = true := by
          intro b
          induction b with
          | zero => intro k hk h; exact ⟨k, h, fun j hj => by omega⟩
          | succ b ihb =>
            intro k hk h
            by_cases hex : ∃ j, j < k ∧ listed.getD j false = false
            · obtain ⟨j, hj, hjf⟩ := hex
              exact ihb j (by omega) ⟨by omega, hjf⟩
            · exact ⟨k, h, fun j hj => by
                cases hv : listed.getD j false with
                | true => rfl
                | false => exact absurd ⟨j, hj, hv⟩ hex⟩
        exact this i0 i0 (Nat.le_refl _) ⟨hi0, hf0⟩
      obtain ⟨k, ⟨hk, hkf⟩, hmin⟩ := this
      obtain ⟨o, ho, _⟩ := hops k hk
      have hr : k ∈ Region.ready .any l.toArray listed := by
        refine mem_ready.2 ⟨getD_in (by omega) hkf, o, ho, fun e he _ => ?_⟩
        have h1 := List.all_eq_true.1 hback k (List.mem_range.2 hk)
        simp only [ho] at h1
        have h2 := List.all_eq_true.1 h1 e (by simpa using he)
        exact hmin _ (by simpa using h2)
      intro e
      rw [e] at hr
      cases hr
    rw [show m + 1 + (l.length - n) = (m + (l.length - n)) + 1 from by omega]
    refine ⟨fun h => absurd h hne, fun i hi => ?_⟩
    have hin := hrn i hi
    obtain ⟨hun, o, ho, hdeps⟩ := mem_ready.1 hi
    have hunf := getD_both hun
    obtain ⟨o', ho', hot⟩ := hops i hin
    have : o' = o := Option.some.inj (ho'.symm.trans ho)
    subst this
    have hag : AgreeOn l.toArray o' (putL (fun i => listed.getD i false) vs a0 ((l.take n).map (·.dst)) 0) (putAll a0 ((l.take n).map (·.dst)) 0 vs) := by
      refine putL_agree _ _ _ 0 ⟨rfl, fun _ _ => rfl⟩ fun j x hx hl t ht => ?_
      rw [Nat.zero_add] at hl
      have hjn : j < n := by
        have h0 := (List.getElem?_eq_some_iff.1 hx).1
        rw [List.length_map, hts] at h0
        exact h0
      obtain ⟨oj, hoj, _⟩ := hops j hjn
      have hx' := hdsts j oj hjn hoj
      rw [hx] at hx'
      have hxe : oj.dst = some t := by rw [← ht]; exact (Option.some.inj hx').symm
      intro hm
      have h1 := List.all_eq_true.1 (List.all_eq_true.1 hlook i (List.mem_range.2 hin)) j (List.mem_range.2 hjn)
      simp only [ho, hoj, Option.bind_some, hxe] at h1
      have h2 : (o'.looksAt l.toArray).contains t = true := by simpa using hm
      rw [h2] at h1
      simp only [Bool.not_true, Bool.false_or] at h1
      obtain ⟨o'', ho'', e, he, hb', hon⟩ := Region.waitsFor_spec h1
      have : o'' = o' := Option.some.inj (ho''.symm.trans ho)
      subst this
      have h3 := hdeps e he hb'
      rw [hon] at h3
      rw [h3] at hl
      cases hl
    have he : (putAll a0 ((l.take n).map (·.dst)) 0 vs).eval = rho a0 ((l.take n).map (·.dst)) vs := rho_eval hdb hdd
    have hok := OpsOk.get (l.take n) 0 i o' hop hot vs w hb (DepL.get fun j hj => by
      obtain ⟨e, he, rfl⟩ := List.mem_map.1 hj
      have he' := List.mem_filter.1 he
      have h3 := hdeps e (by simpa using he'.1) he'.2
      have hei : e.on < i := by
        have h1 := List.all_eq_true.1 hback i (List.mem_range.2 hin)
        simp only [ho] at h1
        simpa using List.all_eq_true.1 h1 e he'.1
      exact hd _ (by omega) h3)
    rw [Nat.zero_add] at hok
    refine opOk_wp ho (fun cs b => Region.noSelect_spec hsel i o' cs b ho) hag he (rho_want he) hok fun v w' hb1 hdv => ?_
    have hset := putL_set (li := fun i => listed.getD i false) (vs := vs) i v ((l.take n).map (·.dst)) a0 0 o'.dst (Nat.zero_le _) (by simpa using hdsts i o' hin ho) hunf
      (fun j x hx hji t ht => by
        have hjn : j < n := by
          have h0 := (List.getElem?_eq_some_iff.1 hx).1
          rw [List.length_map, hts] at h0
          exact h0
        obtain ⟨oj, hoj, _⟩ := hops j hjn
        have hx' := hdsts j oj hjn hoj
        rw [hx] at hx'
        have h1 := List.all_eq_true.1 (List.all_eq_true.1 hdst i (List.mem_range.2 hin)) j (List.mem_range.2 hjn)
        simp only [ho, hoj, Option.bind_some] at h1
        have hij : i ≠ j := by omega
        simp only [hij, decide_false, Bool.false_or, Bool.or_eq_true, decide_eq_true_eq] at h1
        rcases h1 with h1 | h1
        · rw [h1] at ht; cases ht
        · rw [Option.some.inj hx', ← ht]; exact fun e => h1 e.symm)
    have hli : (fun j => if j = i then true else listed.getD j false) = fun j => (listed.setIfInBounds i true).getD j false := by
      funext j
      by_cases hji : j = i
      · subst hji; simp [show j < listed.size from by omega]
      · rw [if_neg hji, getD_set_ne false (Ne.symm hji)]
    rw [hli] at hset
    rw [← hset]
    refine ih (listed.setIfInBounds i true) (fun j => if j = i then v else vs j) w' ?_ (inv.set hi hin) (hb.trans (hb1.mono hb.size)) fun j hj hlj => ?_
    · have := unl_set (listed := listed) (n := n) (i := i) (by omega) hin hunf
      omega
    · by_cases hji : j = i
      · subst hji; simpa using hdv
      · simp only [hji, if_false]
        rw [getD_set_ne false (Ne.symm hji)] at hlj
        exact hD j _ _ _ (hd j hj hlj) hb1

theorem wp_region_grow {id : Nat} (n : Nat) (D : Nat → Value → World → Prop) (hm : P.follows .mixedOrders = true) (hB : growB l.toArray n a0.tmps.size = true)
    (hD : ∀ i v w w', D i v w → Below w.heap.size w w' → D i v w')
    (hop : OpsOk P l.toArray Q D w0 (fun vs => rho a0 ((l.take n).map (·.dst)) vs) 0 (l.take n))
    (hend : ∀ vs w', Below w0.heap.size w0 w' → DepL D vs w' (List.range n) → wpList P l.toArray Q (l.drop n) (putAll a0 ((l.take n).map (·.dst)) 0 vs) w') :
    (Code.region id l.toArray true).wp P Q a0 w0 := by
  refine wp_region_any hm ?_
  have hn : n < l.length := by
    unfold growB at hB
    simp only [Bool.and_eq_true] at hB
    obtain ⟨⟨⟨⟨⟨⟨⟨⟨_, _⟩, hn0⟩, _⟩, _⟩, _⟩, _⟩, _⟩, _⟩ := hB
    simpa using hn0
  have inv0 : HeadInv .any l.toArray n (Array.replicate l.toArray.size false) :=
    ⟨by simp, fun j oj _ hl => (by rw [getD_replicate_false] at hl; cases hl), fun t _ ht => getD_in (by simpa using ht) (getD_replicate_false _ _)⟩
  have hu : unl (Array.replicate l.toArray.size false) n = n := by
    unfold unl
    rw [List.filter_eq_self.2 (fun i _ => by rw [getD_replicate_false]; rfl)]
    simp
  have := grow_main hB hD hop hend n (Array.replicate l.toArray.size false) (fun _ => undef) { w0 with drawn := w0.drawn + 1 } hu inv0 ((Below.refl _ _).drew) (fun i _ hl => by rw [getD_replicate_false] at hl; cases hl)
  have hz : (fun i => (Array.replicate l.toArray.size false).getD i false) = fun _ => false := funext fun i => getD_replicate_false _ i
  have hput : putL (fun i => (Array.replicate l.toArray.size false).getD i false) (fun _ => undef) a0 ((l.take n).map (·.dst)) 0 = a0 := by
    rw [hz]
    have : ∀ (ds : List (Option Tmp)) (a : Act) (k : Nat), putL (fun _ => false) (fun _ => undef) a ds k = a := by
      intro ds
      induction ds with
      | nil => intro a k; rfl
      | cons d ds ih => intro a k; simp only [putL, Bool.false_eq_true, if_false]; exact ih _ _
    exact this _ _ _
  rw [hput] at this
  rw [show l.toArray.size = n + (l.length - n) from by simp; omega]
  rw [show n + (l.length - n) = l.toArray.size from by simp; omega] at this ⊢
  exact this
end

/-- What is known of a value and stays so while memory is only made. -/
structure SP where
  p : Value → World → Prop
  st : ∀ v w w', p v w → Below w.heap.size w w' → p v w'

def SP.eq (x : Value) : SP := ⟨fun v _ => v = x, fun _ _ _ h _ => h⟩
def SP.any : SP := ⟨fun _ _ => True, fun _ _ _ h _ => h⟩
/-- A slice that owns these cells. -/
def SP.row (B : Nat) (e : TypeId) (size n : Nat) (xs : List Value) : SP :=
  ⟨fun v w => ∃ ao cap, v = .slice ao n cap ∧ w.ownsRow B e size (.slice ao n cap) n xs, fun _ _ _ h hb => let ⟨ao, cap, e, ho⟩ := h; ⟨ao, cap, e, own_below ho hb (Nat.le_refl _)⟩⟩
/-- A pointer to the head of a block that is known whole. -/
def SP.blk (B : Nat) (cs : Array Value) (e : TypeId) : SP :=
  ⟨fun v w => ∃ g, v = .pointer (some ⟨g, 0, none⟩) ∧ B ≤ g ∧ Blk w g cs e, fun _ _ _ h hb => let ⟨g, e, hB, h⟩ := h; ⟨g, e, hB, h.below hb h.lt⟩⟩

def spD (L : List SP) (i : Nat) (v : Value) (w : World) : Prop := (L.getD i SP.any).p v w
theorem spD_st (L : List SP) (i : Nat) (v : Value) (w w' : World) (h : spD L i v w) (hb : Below w.heap.size w w') : spD L i v w' := (L.getD i SP.any).st v w w' h hb
end Go.Proofs.Ytafanlbfbfbeoaa

/- A ring, clipped. -/
namespace Go.Proofs.Ytafanlbfbfbeoaa
open Go.RowKit

/-- The side that is next, if so many are left. -/
def edgeOf : Nat → Int
  | 0 => 16
  | 1 => 8
  | 2 => 4
  | 3 => 2
  | _ => 1

/-- What the sides that are left make of a ring. -/
def todo (lx ly hx hy : Int) : Nat → List (Int × Int) → List (Int × Int)
  | 0, ps => ps
  | m + 1, ps => todo lx ly hx hy m (passL lx ly hx hy (edgeOf (m + 1)) ps)

theorem edge_side {m : Nat} (h0 : m ≠ 0) (h : m ≤ 4) : Side (edgeOf m) := by
  obtain rfl | rfl | rfl | rfl : m = 1 ∨ m = 2 ∨ m = 3 ∨ m = 4 := by omega
  · exact .inr (.inr (.inr rfl))
  · exact .inr (.inr (.inl rfl))
  · exact .inr (.inl rfl)
  · exact .inl rfl

theorem edge_next {m : Nat} (h : m ≤ 3) : edgeOf (m + 1) * 2 = edgeOf m := by
  obtain rfl | rfl | rfl | rfl : m = 0 ∨ m = 1 ∨ m = 2 ∨ m = 3 := by omega
  all_goals rfl

theorem todo_all (lx ly hx hy : Int) (ps : List (Int × Int)) : todo lx ly hx hy 4 ps = sidesL lx ly hx hy ps := rfl

theorem todo_nil (lx ly hx hy : Int) : ∀ m, todo lx ly hx hy m [] = []
  | 0 => rfl
  | m + 1 => todo_nil lx ly hx hy m

theorem own_cut0 {w : World} {B : Nat} {e : TypeId} {s k cap : Nat} {ao : Option Addr} {xs : List Value} (h : w.ownsRow B e s (.slice ao k cap) k xs) : w.ownsRow B e s (.slice ao 0 cap) 0 [] := by
  obtain ⟨_, ⟨hv, hk⟩ | ⟨g, cap', cur, hv, hb, hh, hkc, hm, hs, ht⟩⟩ := h
  · refine ⟨by simp, .inl ⟨?_, rfl⟩⟩
    injection hv with h1 h2 h3; rw [h1, h3]
  · injection hv with h1 h2 h3
    subst h1; subst h3
    exact ⟨by simp, .inr ⟨g, cap, cur, rfl, hb, hh, Nat.zero_le _, hm, hs, by simp⟩⟩

/-- What is known between two sides. -/
structure RInv (w wr : World) (B : Nat) (u0 : Option Nat) (b : Nat) (lx ly hx hy : Int) (gi capi : Nat) (rs : List (Int × Int)) (ao : Option Addr) (ko capo : Nat) (ys : List Value) : Prop where
  row : wr.ownsRow B 69 2 (.slice (some ⟨gi, 0, none⟩) rs.length capi) rs.length (rs.flatMap ptE)
  out : wr.ownsRow B 69 2 (.slice ao ko capo) ko ys
  box : Blk wr b #[.float .f64 (F lx), .float .f64 (F ly), .float .f64 (F hx), .float .f64 (F hy)] 71
  bel : Below B w wr
  rowNe : gi ≠ b
  outNe : (Value.slice ao ko capo).ownBlock ≠ some b
  two : (Value.slice ao ko capo).ownBlock ≠ some gi
  pas : ∀ k, k < w.heap.size → u0 ≠ some k → wr.heap[k]? = w.heap[k]?
  rowO : u0 = some gi ∨ w.heap.size ≤ gi
  outO : ∀ g, (Value.slice ao ko capo).ownBlock = some g → u0 = some g ∨ w.heap.size ≤ g

section
variable {w wr w2 : World} {B b : Nat} {u0 : Option Nat} {lx ly hx hy : Int} {gi capi : Nat} {rs : List (Int × Int)} {ao : Option Addr} {ko capo : Nat} {ys : List Value}

theorem RInv.alloc (h : RInv w wr B u0 b lx ly hx hy gi capi rs ao ko capo ys) (hB : B ≤ w.heap.size) (o : Obj) : RInv w (wr.alloc o) B u0 b lx ly hx hy gi capi rs ao ko capo ys :=
  ⟨h.row.alloc o, h.out.alloc o, h.box.alloc o, h.bel.alloc (Nat.le_trans hB h.bel.size) o, h.rowNe, h.outNe, h.two, fun k hk hu => (Below.heap_alloc wr o k (Nat.lt_of_lt_of_le hk h.bel.size)).trans (h.pas k hk hu), h.rowO, h.outO⟩

theorem RInv.below (h : RInv w wr B u0 b lx ly hx hy gi capi rs ao ko capo ys) (hB : B ≤ w.heap.size) (hb : Below wr.heap.size wr w2) : RInv w w2 B u0 b lx ly hx hy gi capi rs ao ko capo ys :=
  ⟨own_below h.row hb (Nat.le_refl _), own_below h.out hb (Nat.le_refl _), h.box.below hb h.box.lt, h.bel.trans (hb.mono (Nat.le_trans hB h.bel.size)), h.rowNe, h.outNe, h.two, fun k hk hu => (hb.block k (Nat.lt_of_lt_of_le hk h.bel.size)).trans (h.pas k hk hu), h.rowO, h.outO⟩

theorem RInv.set (h : RInv w wr B u0 b lx ly hx hy gi capi rs ao ko capo ys) (a : Addr) (hB : B ≤ a.block ∧ w.heap.size ≤ a.block) (h1 : gi ≠ a.block) (h2 : b ≠ a.block) (h3 : (Value.slice ao ko capo).ownBlock ≠ some a.block) (v : Value) : RInv w (wr.setCell a v) B u0 b lx ly hx hy gi capi rs ao ko capo ys :=
  ⟨ownsRow_setCell_other h.row (by simpa [Value.ownBlock] using h1) v, ownsRow_setCell_other h.out h3 v, h.box.setOther a h2 v, h.bel.setCell hB.1 v, h.rowNe, h.outNe, h.two, fun k hk hu => (Below.heap_setCell wr a v k (by have := hB.2; omega)).trans (h.pas k hk hu), h.rowO, h.outO⟩

theorem RInv.cut (h : RInv w wr B u0 b lx ly hx hy gi capi rs ao ko capo ys) : RInv w wr B u0 b lx ly hx hy gi capi rs ao 0 capo [] :=
  have e : (Value.slice ao 0 capo).ownBlock = (Value.slice ao ko capo).ownBlock := by cases ao <;> rfl
  ⟨h.row, own_cut0 h.out, h.box, h.bel, h.rowNe, e ▸ h.outNe, e ▸ h.two, h.pas, h.rowO, e ▸ h.outO⟩

theorem RInv.swap {ga : Nat} (h : RInv w wr B u0 b lx ly hx hy gi capi rs (some ⟨ga, 0, none⟩) ko capo ys) {acc : List (Int × Int)} (hk : ko = acc.length := by rfl) (hy' : ys = acc.flatMap ptE := by rfl) :
    RInv w wr B u0 b lx ly hx hy ga capo acc (some ⟨gi, 0, none⟩) rs.length capi (rs.flatMap ptE) := by
  subst hk; subst hy'
  exact ⟨h.out, h.row, h.box, h.bel, by simpa [Value.ownBlock] using h.outNe, by simpa [Value.ownBlock] using h.rowNe, by simpa [Value.ownBlock] using Ne.symm (by simpa [Value.ownBlock] using h.two : ga ≠ gi), h.pas, h.outO ga rfl, fun g hg => by
    have hg : gi = g := by simpa [Value.ownBlock] using hg
    exact hg ▸ h.rowO⟩

theorem RInv.gi_lt (h : RInv w wr B u0 b lx ly hx hy gi capi rs ao ko capo ys) : gi < wr.heap.size := (h.row.lt gi rfl).2

theorem RInv.push (h : RInv w wr B u0 b lx ly hx hy gi capi rs ao ko capo ys) {o : Obj} {g cap' n' : Nat} {zs : List Value} (ho : w2.ownsRow B 69 2 (.slice (some ⟨g, 0, none⟩) n' cap') n' zs) (hb : Below B w w2)
    (hg : (wr.alloc o).grownBy w2 (Value.slice ao ko capo).ownBlock) (hat : (Value.slice ao ko capo).ownBlock = some g ∨ g = wr.heap.size + 1) : RInv w w2 B u0 b lx ly hx hy gi capi rs (some ⟨g, 0, none⟩) n' cap' zs :=
  ⟨(h.row.alloc o).kept hg (.inr (fun e => h.two (by rw [← e]; rfl))), ho, (h.box.alloc o).grown hg (fun e => h.outNe e.symm), hb, h.rowNe,
    fun e => by
      have e : g = b := by simpa [Value.ownBlock] using e
      rcases hat with e1 | e1
      · exact h.outNe (by rw [e1, e])
      · have := h.box.lt; omega,
    fun e => by
      have e : g = gi := by simpa [Value.ownBlock] using e
      rcases hat with e1 | e1
      · exact h.two (by rw [e1, e])
      · have := h.gi_lt; omega,
    fun k hk hu => by
      have hkw := Nat.lt_of_lt_of_le hk h.bel.size
      rw [hg.block k (by simp; omega) (fun e => by
        rcases h.outO k e.symm with e1 | e1
        · exact hu e1
        · omega), Below.heap_alloc wr o k hkw]
      exact h.pas k hk hu,
    h.rowO,
    fun x hx => by
      have hx : g = x := by simpa [Value.ownBlock] using hx
      subst hx
      rcases hat with e1 | e1
      · exact h.outO g e1
      · have := h.bel.size; omega⟩

/-- What a call leaves as it was: all but one block, and what it makes. -/
def Apart (w w' : World) (u v : Value) : Prop :=
  (∀ k, k < w.heap.size → u.ownBlock ≠ some k → w'.heap[k]? = w.heap[k]?) ∧ ∀ g, v.ownBlock = some g → u.ownBlock = some g ∨ w.heap.size ≤ g
end

theorem last_is {rs : List (Int × Int)} (h : 0 < rs.length) (q : Int × Int) : lastOr q rs = rs[rs.length - 1]'(by omega) := by
  unfold lastOr
  rw [List.getLast?_eq_getElem?, List.getElem?_eq_getElem (by omega)]
  rfl

theorem step_facts {rs : List (Int × Int)} {q : Int × Int} {k : Nat} (hk : k < rs.length) (hq : q = rs[rs.length - 1]'(by omega)) (hn : ∀ p ∈ rs, Near p) (ho : OctiR rs) :
    Near (lastOr q (rs.take k)) ∧ Octi (lastOr q (rs.take k)) rs[k] := by
  have hq2 : q = lastOr (0, 0) rs := by rw [last_is (by omega)]; exact hq
  constructor
  · by_cases hz : rs.take k = []
    · rw [hz, hq]; exact hn _ (List.getElem_mem _)
    · exact hn _ (List.mem_of_mem_take (lastOr_mem _ hz))
  · unfold OctiR at ho
    rw [← hq2] at ho
    have e : rs = rs.take k ++ rs[k] :: rs.drop (k + 1) := by rw [List.getElem_cons_drop, List.take_append_drop]
    have ho2 : OctiL q (rs.take k ++ rs[k] :: rs.drop (k + 1)) := by rw [← e]; exact ho
    exact ((octiL_append _ _ _).1 ho2).2.1

theorem step_done {ins : Int × Int → Bool} {cut : Int × Int → Int × Int → Int × Int} {rs acc : List (Int × Int)} {q z p : Int × Int} {k : Nat} (hk : k < rs.length) (h : acc = clipL ins cut q (rs.take k) ∧ z = lastOr q (rs.take k)) (hp : p = rs[k]) :
    acc ++ emit ins cut z p = clipL ins cut q (rs.take (k + 1)) ∧ p = lastOr q (rs.take (k + 1)) := by
  obtain ⟨rfl, rfl⟩ := h
  subst hp
  rw [List.take_succ_eq_append_getElem hk, clip_snoc, lastOr_append]
  exact ⟨rfl, rfl⟩

end Go.Proofs.Ytafanlbfbfbeoaa

/- A ring, clipped, as the thin package gives it. -/
namespace Go.Proofs.Ytafanlbfbfbeoaa
open Go.RowKit

theorem close_len (l : List (Int × Int)) : (closeL l).length ≤ l.length + 1 := by
  unfold closeL
  split
  · omega
  · cases l <;> simp

theorem ring_len (lx ly hx hy : Int) (ps : List (Int × Int)) : (ringL lx ly hx hy ps).length ≤ 16 * ps.length + 1 := by
  have h0 := close_len (sidesL lx ly hx hy ps)
  have h1 : (passL lx ly hx hy 1 ps).length ≤ _ := clip_len _ _ _ _
  have h2 : (passL lx ly hx hy 2 (passL lx ly hx hy 1 ps)).length ≤ _ := clip_len _ _ _ _
  have h3 : (passL lx ly hx hy 4 (passL lx ly hx hy 2 (passL lx ly hx hy 1 ps))).length ≤ _ := clip_len _ _ _ _
  have h4 : (sidesL lx ly hx hy ps).length ≤ _ := clip_len _ _ _ _
  unfold ringL
  omega

/-- What a ring is to be. -/
structure RingOk (ps : List (Int × Int)) : Prop where
  len : ps.length ≤ 2000
  near : ∀ p ∈ ps, Near p
  octi : OctiR ps
  closed : ps.head? = ps.getLast?

end Go.Proofs.Ytafanlbfbfbeoaa

/- The points of a way, and then back to the first one. -/
namespace Go.Proofs.Ytafanlbfbfbeoaa
open Go.RowKit

/-- The three additions. -/
def backX (f l : Int × Int) (ws : List (Int × Int)) : List (Int × Int) := if l.1 = f.1 then ws else ws ++ [(f.1, l.2)]
def backY (f l : Int × Int) (ws : List (Int × Int)) : List (Int × Int) := if l.2 = f.2 then ws else ws ++ [f]
def backOne (f : Int × Int) (ws : List (Int × Int)) : List (Int × Int) := if ws.length = 1 then ws ++ [f] else ws

/-- A ring of a way. -/
def closedL (ws : List (Int × Int)) : List (Int × Int) :=
  backOne (ws.headD (0, 0)) (backY (ws.headD (0, 0)) (lastOr (0, 0) ws) (backX (ws.headD (0, 0)) (lastOr (0, 0) ws) ws))

/-- 'out = append(out, xs...)'. -/
theorem wpList_pushAll {P : Program} {ops : Array Oper} {rest : List Oper} {o : Oper} {a : Act} {Q : Exit → Act → World → Prop} (hgd : o.guard = none) (s x : Operand) (t : TypeId)
    (ho : o.op = .call { callee := .builtin .append, args := #[s, x], argTypes := #[t, t] })
    (e : TypeId) (i : TypeInfo) (z : Value) (size bytes : Nat) (ht : P.underlying t = some (.slice e)) (hi : P.info? e = some i) (hz : i.zero = some z)
    (hsize : i.size = size) (hby : i.bytes = bytes) (hzs : z.cells.size = size) (hsz : 0 < size) (hbs : bytes ≤ 1000)
    (W w0 : World) (B : Nat) (v : Value) (n : Nat) (xs : List Value) (hs : a.eval s = v) (hown : w0.ownsRow B e size v n xs) (C : Nat) (hbel : Below C W w0) (hCB : C ≤ B) (hBs : B ≤ w0.heap.size) (hn : n ≤ 1000000000)
    (news : List Value) (B' gx m c : Nat) (hrow : w0.ownsRow B' e size (.slice (some ⟨gx, 0, none⟩) m c) m news) (hm : 0 < m) (hm' : m ≤ 1000000000) (hx : a.eval x = .slice (some ⟨gx, 0, none⟩) m c) (h1 : ∀ u ∈ news, u.oneCell' = true) (hCw : C ≤ W.heap.size)
    (h : ∀ g cap w', w'.ownsRow B e size (.slice (some ⟨g, 0, none⟩) (n + m) cap) (n + m) (xs ++ news) → Below C W w' →
      w0.grownBy w' v.ownBlock → (v.ownBlock = some g ∨ g = w0.heap.size) → g < w'.heap.size → wpList P ops Q rest (a.put o.dst (.slice (some ⟨g, 0, none⟩) (n + m) cap)) w') :
    wpList P ops Q (o :: rest) a w0 := by
  refine wpList_append_lies _ hgd s x t ho B e i z size bytes ht hi hz hsize hby hzs hsz v n xs hs hown ⟨gx, 0, none⟩ m c news hx hrow.1 (fun j u hj => hrow.cells rfl j u hj) h1 hm (by unfold maxLen; omega) ?_ hBs w0.heap.size rfl ?_
  · have h2 : (n + m) * bytes ≤ (n + m) * 1000 := Nat.mul_le_mul_left _ hbs
    omega
  · intro g cap w' ho1 hg1 hat hlt
    exact h g cap w' ho1 (hbel.grown hg1 (Nat.le_trans hCw hbel.size) fun k hk => Nat.le_trans hCB (hown.lt k hk).1) hg1 hat hlt

theorem spots_one (ps : List (Int × Int)) : ∀ u ∈ ps.flatMap spotE, u.oneCell' = true := by
  intro u hu
  obtain ⟨p, _, hp⟩ := List.mem_flatMap.1 hu
  simp [spotE] at hp
  rcases hp with rfl | rfl <;> rfl

set_option maxRecDepth 100000 in
set_option maxHeartbeats 1000000 in
theorem closed_any (ao : Option Addr) (cap : Nat) (ws : List (Int × Int)) (B : Nat) (w : World) (hpos : 0 < ws.length) (hlen : ws.length ≤ 1000)
    (h : w.ownsRow B 25 2 (.slice ao ws.length cap) ws.length (ws.flatMap spotE)) :
    Calls Try.prog 8 #[.slice ao ws.length cap] w fun e w' => ∃ ao' cap', e = .returned (.slice ao' (closedL ws).length cap') ∧ w'.ownsRow w.heap.size 25 2 (.slice ao' (closedL ws).length cap') (closedL ws).length ((closedL ws).flatMap spotE) ∧ Below w.heap.size w w' := by
  obtain ⟨i0, hi, hz0, hz1, hz2⟩ := info_parts Try.info25
  obtain ⟨g, hg, hc⟩ := spots_read h
  obtain ⟨rfl, hgs, _⟩ := hg hpos
  obtain ⟨c0, c1⟩ := hc 0 hpos
  obtain ⟨d0, d1⟩ := hc (ws.length - 1) (by omega)
  obtain ⟨f, hf⟩ : ∃ f, f = ws[0] := ⟨_, rfl⟩
  obtain ⟨l, hl⟩ : ∃ l, l = ws[ws.length - 1]'(by omega) := ⟨_, rfl⟩
  rw [← hf] at c0 c1
  rw [← hl] at d0 d1
  have hfe : ws.headD (0, 0) = f := by rw [hf]; cases ws with
    | nil => simp at hpos
    | cons a b => rfl
  have hle : lastOr (0, 0) ws = l := by rw [hl]; exact last_is hpos _
  have HR : Hid (closedL ws = backOne f (backY f l (backX f l ws))) := by show _ = _; unfold closedL; rw [hfe, hle]
  generalize closedL ws = rs at *
  clear hf hl hfe hle hg hc
  go_enter Try.func8, Try.ntmps8
  go_wp2_with fail
  go_cut [3, 4] (fun s3 s4 wc => ∃ g3 g4 : Nat, s3 = .pointer (some ⟨g3, 0, none⟩) ∧ s4 = .pointer (some ⟨g4, 0, none⟩) ∧ Blk wc g3 #[.int .i64 f.1, .int .i64 f.2] 25 ∧ Blk wc g4 #[.int .i64 l.1, .int .i64 l.2] 25 ∧ Below w.heap.size w wc)
  case first =>
    have a0 : ∀ o, (w.alloc o).cell? ⟨g, 0, none⟩ = some (.int .i64 f.1) := fun o => by rw [World.cell?_alloc_past _ _ _ hgs]; simpa using c0
    have a1 : ∀ o, (w.alloc o).cell? ⟨g, 1, none⟩ = some (.int .i64 f.2) := fun o => by rw [World.cell?_alloc_past _ _ _ hgs]; simpa using c1
    have a2 : ∀ o, (w.alloc o).cell? ⟨g, (ws.length - 1) * 2, none⟩ = some (.int .i64 l.1) := fun o => by rw [World.cell?_alloc_past _ _ _ hgs]; simpa using d0
    have a3 : ∀ o, (w.alloc o).cell? ⟨g, (ws.length - 1) * 2 + 1, none⟩ = some (.int .i64 l.2) := fun o => by rw [World.cell?_alloc_past _ _ _ hgs]; simpa using d1
    go_region
    all_goals go_wp2_with fail
    all_goals go_meet
    · refine ⟨_, _, rfl, rfl, ((Blk.new w #[.int .i64 f.1, .int .i64 f.2] 25).alloc _).drew, ?_, (((Below.refl _ _).alloc (Nat.le_refl _) _).alloc (by simp) _).drew⟩
      have hh := Blk.new (w.alloc (.cells #[.int .i64 f.1, .int .i64 f.2] 25)) #[.int .i64 l.1, .int .i64 l.2] 25
      simp only [World.size_alloc] at hh
      exact hh.drew
    · refine ⟨_, _, rfl, rfl, ?_, ((Blk.new w #[.int .i64 l.1, .int .i64 l.2] 25).alloc _).drew, (((Below.refl _ _).alloc (Nat.le_refl _) _).alloc (by simp) _).drew⟩
      have hh := Blk.new (w.alloc (.cells #[.int .i64 l.1, .int .i64 l.2] 25)) #[.int .i64 f.1, .int .i64 f.2] 25
      simp only [World.size_alloc] at hh
      exact hh.drew
  case rest =>
    obtain ⟨g3, g4, rfl, rfl, b3, b4, hbc⟩ := hcut
    have hwc := hbc.size
    have hrow := own_below h (hbc.mono (Nat.le_refl _)) (Nat.le_refl _)
    have l3 := b3.lt
    have l4 := b4.lt
    clear c0 c1 d0 d1 h
    go_wp2_with (at_builtin; refine wpList_pushAll rfl (.tmp 15) (.tmp 16) 29 rfl 25 i0 _ 2 16 Try.underlying29 hi hz0 hz1 hz2 rfl (by decide) (by decide) w _ wc.heap.size (.slice (some ⟨wc.heap.size, 0, none⟩) 0 0) 0 [] rfl (own_new wc wc.heap.size (Nat.le_refl _) 25 2 0 [] rfl (by omega)) w.heap.size (below_alloc hbc _ (Nat.le_refl _)) hwc (by simp) (by omega) (ws.flatMap spotE) B g ws.length cap (hrow.alloc _) hpos (by omega) rfl (spots_one ws) (Nat.le_refl _) ?_)
    intro g5 cap0 w0 own0 bel0 hgr0 _ _
    have b30 := (b3.alloc _).grown hgr0 (fun e => by simp [Value.ownBlock] at e; omega)
    have b40 := (b4.alloc _).grown hgr0 (fun e => by simp [Value.ownBlock] at e; omega)
    have sz0 : wc.heap.size ≤ w0.heap.size := by have := hgr0.size; simp at this; omega
    clear hgr0 hrow b3 b4
    by_cases hX : l.1 = f.1 <;> by_cases hY : l.2 = f.2
    · have hX2 : (l.1 != f.1) = false := by simp [hX]
      have hY2 : (l.2 != f.2) = false := by simp [hY]
      by_cases h1 : ws.length = 1
      · have hrs : Hid (rs = ws ++ [f]) := by show _ = _; rw [HR.out]; simp [backX, backY, backOne, hX, hY, h1]
        clear HR hX hY
        have p00 : w0.cell? ⟨g3, 0, none⟩ = some (.int .i64 f.1) := b30.cell 0
        have p10 : w0.cell? ⟨g3, 1, none⟩ = some (.int .i64 f.2) := b30.cell 1
        have q00 : w0.cell? ⟨g4, 0, none⟩ = some (.int .i64 l.1) := b40.cell 0
        have q10 : w0.cell? ⟨g4, 1, none⟩ = some (.int .i64 l.2) := b40.cell 1
        go_wp2_with (at_builtin; refine wpList_push rfl _ _ 29 rfl 25 i0 _ 2 16 Try.underlying29 hi hz0 hz1 hz2 rfl (by decide) (by decide) w _ wc.heap.size _ (ws.length) _ rfl own0 w.heap.size bel0 hwc sz0 (by omega) [_, _] _ _ (by simp) 1 rfl rfl (by simp [Value.oneCell']) ?_)
        intro g5' cap1 w1 own1 bel1 szz1 hgr1 _ _
        have b31 := (b30.alloc _).grown hgr1 (fun e => by have := (own0.lt _ e.symm).1; omega)
        have b41 := (b40.alloc _).grown hgr1 (fun e => by have := (own0.lt _ e.symm).1; omega)
        have sz1 : wc.heap.size ≤ w1.heap.size := by omega
        clear hgr1 szz1
        go_wp2
        go_ret
        refine ⟨some ⟨g5', 0, none⟩, cap1, ?_, ?_, bel1⟩
        · rw [hrs.out, List.length_append, h1]; rfl
        · rw [hrs.out, List.length_append, h1]
          have := own_mono own1 hwc
          simpa [spotE, List.flatMap_append] using this
      · have hrs : Hid (rs = ws) := by show _ = _; rw [HR.out]; simp [backX, backY, backOne, hX, hY, h1]
        clear HR hX hY
        have p00 : w0.cell? ⟨g3, 0, none⟩ = some (.int .i64 f.1) := b30.cell 0
        have p10 : w0.cell? ⟨g3, 1, none⟩ = some (.int .i64 f.2) := b30.cell 1
        have q00 : w0.cell? ⟨g4, 0, none⟩ = some (.int .i64 l.1) := b40.cell 0
        have q10 : w0.cell? ⟨g4, 1, none⟩ = some (.int .i64 l.2) := b40.cell 1
        go_wp2
        go_ret
        exact ⟨some ⟨g5, 0, none⟩, cap0, by rw [hrs.out]; rfl, by rw [hrs.out]; exact own_mono own0 hwc, bel0⟩
    · have hX2 : (l.1 != f.1) = false := by simp [hX]
      have hY2 : (l.2 != f.2) = true := by simp [hY]
      have hrs : Hid (rs = ws ++ [f]) := by show _ = _; rw [HR.out]; unfold backOne backY backX; simp only [if_pos hX, if_neg hY]; rw [if_neg (by simp only [List.length_append, List.length_cons, List.length_nil]; omega)]; try simp
      clear HR hX hY
      have p00 : w0.cell? ⟨g3, 0, none⟩ = some (.int .i64 f.1) := b30.cell 0
      have p10 : w0.cell? ⟨g3, 1, none⟩ = some (.int .i64 f.2) := b30.cell 1
      have q00 : w0.cell? ⟨g4, 0, none⟩ = some (.int .i64 l.1) := b40.cell 0
      have q10 : w0.cell? ⟨g4, 1, none⟩ = some (.int .i64 l.2) := b40.cell 1
      go_wp2_with (at_builtin; refine wpList_push rfl _ _ 29 rfl 25 i0 _ 2 16 Try.underlying29 hi hz0 hz1 hz2 rfl (by decide) (by decide) w _ wc.heap.size _ (ws.length) _ rfl own0 w.heap.size bel0 hwc sz0 (by omega) [_, _] _ _ (by simp) 1 rfl rfl (by simp [Value.oneCell']) ?_)
      intro g5' cap1 w1 own1 bel1 szz1 hgr1 _ _
      have b31 := (b30.alloc _).grown hgr1 (fun e => by have := (own0.lt _ e.symm).1; omega)
      have b41 := (b40.alloc _).grown hgr1 (fun e => by have := (own0.lt _ e.symm).1; omega)
      have sz1 : wc.heap.size ≤ w1.heap.size := by omega
      clear hgr1 szz1
      have p01 : w1.cell? ⟨g3, 0, none⟩ = some (.int .i64 f.1) := b31.cell 0
      have p11 : w1.cell? ⟨g3, 1, none⟩ = some (.int .i64 f.2) := b31.cell 1
      have q01 : w1.cell? ⟨g4, 0, none⟩ = some (.int .i64 l.1) := b41.cell 0
      have q11 : w1.cell? ⟨g4, 1, none⟩ = some (.int .i64 l.2) := b41.cell 1
      go_wp2
      go_ret
      refine ⟨some ⟨g5', 0, none⟩, cap1, ?_, ?_, bel1⟩
      · rw [hrs.out, List.length_append]; rfl
      · rw [hrs.out, List.length_append]
        have := own_mono own1 hwc
        simpa [spotE, List.flatMap_append] using this
    · have hX2 : (l.1 != f.1) = true := by simp [hX]
      have hY2 : (l.2 != f.2) = false := by simp [hY]
      have hrs : Hid (rs = ws ++ [(f.1, l.2)]) := by show _ = _; rw [HR.out]; unfold backOne backY backX; simp only [if_neg hX, if_pos hY]; rw [if_neg (by simp only [List.length_append, List.length_cons, List.length_nil]; omega)]; try simp
      clear HR hX hY
      have p00 : w0.cell? ⟨g3, 0, none⟩ = some (.int .i64 f.1) := b30.cell 0
      have p10 : w0.cell? ⟨g3, 1, none⟩ = some (.int .i64 f.2) := b30.cell 1
      have q00 : w0.cell? ⟨g4, 0, none⟩ = some (.int .i64 l.1) := b40.cell 0
      have q10 : w0.cell? ⟨g4, 1, none⟩ = some (.int .i64 l.2) := b40.cell 1
      go_wp2_with (at_builtin; refine wpList_push rfl _ _ 29 rfl 25 i0 _ 2 16 Try.underlying29 hi hz0 hz1 hz2 rfl (by decide) (by decide) w _ wc.heap.size _ (ws.length) _ rfl own0 w.heap.size bel0 hwc sz0 (by omega) [_, _] _ _ (by simp) 1 rfl rfl (by simp [Value.oneCell']) ?_)
      intro g5' cap1 w1 own1 bel1 szz1 hgr1 _ _
      have b31 := (b30.alloc _).grown hgr1 (fun e => by have := (own0.lt _ e.symm).1; omega)
      have b41 := (b40.alloc _).grown hgr1 (fun e => by have := (own0.lt _ e.symm).1; omega)
      have sz1 : wc.heap.size ≤ w1.heap.size := by omega
      clear hgr1 szz1
      have p01 : w1.cell? ⟨g3, 0, none⟩ = some (.int .i64 f.1) := b31.cell 0
      have p11 : w1.cell? ⟨g3, 1, none⟩ = some (.int .i64 f.2) := b31.cell 1
      have q01 : w1.cell? ⟨g4, 0, none⟩ = some (.int .i64 l.1) := b41.cell 0
      have q11 : w1.cell? ⟨g4, 1, none⟩ = some (.int .i64 l.2) := b41.cell 1
      go_wp2
      go_ret
      refine ⟨some ⟨g5', 0, none⟩, cap1, ?_, ?_, bel1⟩
      · rw [hrs.out, List.length_append]; rfl
      · rw [hrs.out, List.length_append]
        have := own_mono own1 hwc
        simpa [spotE, List.flatMap_append] using this
    · have hX2 : (l.1 != f.1) = true := by simp [hX]
      have hY2 : (l.2 != f.2) = true := by simp [hY]
      have hrs : Hid (rs = ws ++ [(f.1, l.2), f]) := by show _ = _; rw [HR.out]; unfold backOne backY backX; simp only [if_neg hX, if_neg hY]; rw [if_neg (by simp only [List.length_append, List.length_cons, List.length_nil]; omega)]; try simp
      clear HR hX hY
      have p00 : w0.cell? ⟨g3, 0, none⟩ = some (.int .i64 f.1) := b30.cell 0
      have p10 : w0.cell? ⟨g3, 1, none⟩ = some (.int .i64 f.2) := b30.cell 1
      have q00 : w0.cell? ⟨g4, 0, none⟩ = some (.int .i64 l.1) := b40.cell 0
      have q10 : w0.cell? ⟨g4, 1, none⟩ = some (.int .i64 l.2) := b40.cell 1
      go_wp2_with (at_builtin; refine wpList_push rfl _ _ 29 rfl 25 i0 _ 2 16 Try.underlying29 hi hz0 hz1 hz2 rfl (by decide) (by decide) w _ wc.heap.size _ (ws.length) _ rfl own0 w.heap.size bel0 hwc sz0 (by omega) [_, _] _ _ (by simp) 1 rfl rfl (by simp [Value.oneCell']) ?_)
      intro g5' cap1 w1 own1 bel1 szz1 hgr1 _ _
      have b31 := (b30.alloc _).grown hgr1 (fun e => by have := (own0.lt _ e.symm).1; omega)
      have b41 := (b40.alloc _).grown hgr1 (fun e => by have := (own0.lt _ e.symm).1; omega)
      have sz1 : wc.heap.size ≤ w1.heap.size := by omega
      clear hgr1 szz1
      have p01 : w1.cell? ⟨g3, 0, none⟩ = some (.int .i64 f.1) := b31.cell 0
      have p11 : w1.cell? ⟨g3, 1, none⟩ = some (.int .i64 f.2) := b31.cell 1
      have q01 : w1.cell? ⟨g4, 0, none⟩ = some (.int .i64 l.1) := b41.cell 0
      have q11 : w1.cell? ⟨g4, 1, none⟩ = some (.int .i64 l.2) := b41.cell 1
      go_wp2_with (at_builtin; refine wpList_push rfl _ _ 29 rfl 25 i0 _ 2 16 Try.underlying29 hi hz0 hz1 hz2 rfl (by decide) (by decide) w _ wc.heap.size _ (ws.length + 1) _ rfl own1 w.heap.size bel1 hwc sz1 (by omega) [_, _] _ _ (by simp) 1 rfl rfl (by simp [Value.oneCell']) ?_)
      intro g6' cap2 w2 own2 bel2 szz2 hgr2 _ _
      have b32 := (b31.alloc _).grown hgr2 (fun e => by have := (own1.lt _ e.symm).1; omega)
      have b42 := (b41.alloc _).grown hgr2 (fun e => by have := (own1.lt _ e.symm).1; omega)
      have sz2 : wc.heap.size ≤ w2.heap.size := by omega
      clear hgr2 szz2
      have p02 : w2.cell? ⟨g3, 0, none⟩ = some (.int .i64 f.1) := b32.cell 0
      have p12 : w2.cell? ⟨g3, 1, none⟩ = some (.int .i64 f.2) := b32.cell 1
      have q02 : w2.cell? ⟨g4, 0, none⟩ = some (.int .i64 l.1) := b42.cell 0
      have q12 : w2.cell? ⟨g4, 1, none⟩ = some (.int .i64 l.2) := b42.cell 1
      go_wp2
      go_ret
      refine ⟨some ⟨g6', 0, none⟩, cap2, ?_, ?_, bel2⟩
      · rw [hrs.out, List.length_append]; rfl
      · rw [hrs.out, List.length_append]
        have := own_mono own2 hwc
        simpa [spotE, List.flatMap_append] using this
end Go.Proofs.Ytafanlbfbfbeoaa

/- Rings in plain words. -/
namespace Go.Proofs.Ytafanlbfbfbeoaa

theorem octi_move (p : Int × Int) (m : Int) : Octi p (moveS p m) := by
  obtain ⟨j, hj, hj'⟩ : ∃ j : Nat, (m % 8).toNat = j ∧ j < 8 := ⟨_, rfl, by omega⟩
  unfold moveS Octi
  rw [hj]
  simp only
  obtain rfl | rfl | rfl | rfl | rfl | rfl | rfl | rfl : j = 0 ∨ j = 1 ∨ j = 2 ∨ j = 3 ∨ j = 4 ∨ j = 5 ∨ j = 6 ∨ j = 7 := by omega
  all_goals simp [dxL, dyL]
  all_goals omega

theorem way_octi : ∀ (ms : List Int) (p q : Int × Int), Octi q p → OctiL q (wayL p ms)
  | [], _p, _q, h => ⟨h, trivial⟩
  | m :: ms, p, _q, h => ⟨h, way_octi ms _ _ (octi_move p m)⟩

theorem wayL_head (p : Int × Int) (ms : List Int) : (wayL p ms).headD (0, 0) = p := by cases ms <;> rfl

theorem octi_self (p : Int × Int) : Octi p p := .inl rfl

theorem closed_ring {ws : List (Int × Int)} (hpos : 0 < ws.length) (hlen : ws.length ≤ 900) (hn : ∀ p ∈ ws, Near p) (ho : OctiL (ws.headD (0, 0)) ws) : RingOk (closedL ws) ∧ 0 < (closedL ws).length := by
  have hne : ws ≠ [] := List.length_pos_iff.1 hpos
  obtain ⟨f, hf⟩ : ∃ f, f = ws.headD (0, 0) := ⟨_, rfl⟩
  obtain ⟨l, hl⟩ : ∃ l, l = lastOr (0, 0) ws := ⟨_, rfl⟩
  have hfn : Near f := by
    rw [hf]; cases ws with
    | nil => exact absurd rfl hne
    | cons a b => exact hn a (by simp)
  have hln : Near l := by rw [hl]; exact hn _ (lastOr_mem _ hne)
  have hfh : ws.head? = some f := by rw [hf]; cases ws with
    | nil => exact absurd rfl hne
    | cons a b => rfl
  unfold closedL
  rw [← hf, ← hl]
  have hlf : lastOr f ws = l := by rw [hl]; exact lastOr_ne _ _ hne
  rw [← hf] at ho
  -- the ring, from its first point on
  have key : ∀ ss : List (Int × Int), ss.length ≤ 3 → (∀ p ∈ ss, Near p) → OctiL l ss → lastOr l ss = f → RingOk (ws ++ ss) := by
    intro ss h1 h2 h3 h4
    have hla : lastOr (0, 0) (ws ++ ss) = f := by rw [lastOr_append, ← hl, h4]
    refine ⟨by rw [List.length_append]; omega, ?_, ?_, ?_⟩
    · intro p hp
      rcases List.mem_append.1 hp with h | h
      · exact hn p h
      · exact h2 p h
    · unfold OctiR
      rw [hla, octiL_append, hlf]
      exact ⟨ho, h3⟩
    · have e1 : (ws ++ ss).head? = some f := by rw [List.head?_append, hfh]; rfl
      have e2 : (ws ++ ss).getLast? = some f := by
        have hz : ws ++ ss ≠ [] := by simp [hne]
        rw [← hla]
        unfold lastOr
        rw [List.getLast?_eq_some_getLast hz]
        rfl
      rw [e1, e2]
  have hpl : ∀ ss : List (Int × Int), 0 < (ws ++ ss).length := fun ss => by rw [List.length_append]; omega
  have hmid : Near (f.1, l.2) := ⟨hfn.1, hln.2⟩
  by_cases hX : l.1 = f.1 <;> by_cases hY : l.2 = f.2
  · have hlf' : l = f := Prod.ext hX hY
    by_cases h1 : ws.length = 1
    · have e : backOne f (backY f l (backX f l ws)) = ws ++ [f] := by simp [backX, backY, backOne, hX, hY, h1]
      rw [e]
      exact ⟨key [f] (by simp) (by simpa using hfn) ⟨by rw [hlf']; exact octi_self f, trivial⟩ rfl, hpl _⟩
    · have e : backOne f (backY f l (backX f l ws)) = ws ++ [] := by simp [backX, backY, backOne, hX, hY, h1]
      rw [e]
      exact ⟨key [] (by simp) (by simp) trivial hlf', hpl _⟩
  · have e : backOne f (backY f l (backX f l ws)) = ws ++ [f] := by
      unfold backOne backY backX; simp only [if_pos hX, if_neg hY]; rw [if_neg (by simp only [List.length_append, List.length_cons, List.length_nil]; omega)]
    rw [e]
    exact ⟨key [f] (by simp) (by simpa using hfn) ⟨.inl hX, trivial⟩ rfl, hpl _⟩
  · have e : backOne f (backY f l (backX f l ws)) = ws ++ [(f.1, l.2)] := by
      unfold backOne backY backX; simp only [if_neg hX, if_pos hY]; rw [if_neg (by simp only [List.length_append, List.length_cons, List.length_nil]; omega)]
    rw [e]
    exact ⟨key [(f.1, l.2)] (by simp) (by simpa using hmid) ⟨.inr (.inl rfl), trivial⟩ (Prod.ext rfl hY), hpl _⟩
  · have e : backOne f (backY f l (backX f l ws)) = ws ++ [(f.1, l.2), f] := by
      unfold backOne backY backX; simp only [if_neg hX, if_neg hY]; rw [if_neg (by simp only [List.length_append, List.length_cons, List.length_nil]; omega)]; simp
    rw [e]
    exact ⟨key [(f.1, l.2), f] (by simp) (by simpa using ⟨hmid, hfn⟩) ⟨.inr (.inl rfl), .inl rfl, trivial⟩ rfl, hpl _⟩

/-- What lies inside stays. -/
theorem clip_whole {ins : Int × Int → Bool} {cut : Int × Int → Int × Int → Int × Int} : ∀ (l : List (Int × Int)) (q : Int × Int), ins q = true → (∀ p ∈ l, ins p = true) → clipL ins cut q l = l
  | [], _, _, _ => rfl
  | p :: l, q, hq, h => by
    rw [clipL, clip_whole l p (h p (by simp)) fun u hu => h u (by simp [hu])]
    unfold emit
    rw [h p (by simp), hq]
    rfl

theorem pass_whole {lx ly hx hy e : Int} {ps : List (Int × Int)} (h : ∀ p ∈ ps, inB lx ly hx hy e p = true) : passL lx ly hx hy e ps = ps := by
  by_cases hz : ps = []
  · subst hz; rfl
  · exact clip_whole _ _ (h _ (lastOr_mem _ hz)) h

theorem ring_whole {lx ly hx hy : Int} {ps : List (Int × Int)} (hc : ps.head? = ps.getLast?) (h : ∀ p ∈ ps, hasB lx ly hx hy p.1 p.2 = true) : ringL lx ly hx hy ps = ps := by
  have h2 : ∀ p ∈ ps, lx ≤ p.1 ∧ p.1 ≤ hx ∧ ly ≤ p.2 ∧ p.2 ≤ hy := fun p hp => (hasB_iff ..).1 (h p hp)
  unfold ringL sidesL
  rw [pass_whole (e := 1) fun p hp => decide_eq_true (h2 p hp).1, pass_whole (e := 2) fun p hp => decide_eq_true (h2 p hp).2.1, pass_whole (e := 4) fun p hp => decide_eq_true (h2 p hp).2.2.1, pass_whole (e := 8) fun p hp => decide_eq_true (h2 p hp).2.2.2]
  unfold closeL
  rw [if_pos hc]
end Go.Proofs.Ytafanlbfbfbeoaa
