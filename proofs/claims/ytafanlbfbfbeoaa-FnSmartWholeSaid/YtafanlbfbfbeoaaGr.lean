/- A statement whose order Go leaves open, of operations that only read or make memory, and then a tail in one order: one goal for each operation, none for each order. -/
import Derived.Test.YtafanlbfbfbeoaaDa
import Derived.StillTail
import Derived.KernelRfl
namespace Go.Proofs.Ytafanlbfbfbeoaa
open Go.RowKit

/-- Values laid into slots, one behind the other. -/
def putAll (a : Act) : List (Option Tmp) → Nat → (Nat → Value) → Act
  | [], _, _ => a
  | d :: ds, k, vs => putAll (a.put d (vs k)) ds (k + 1) vs

/-- The same, of those that are listed. -/
def putL (li : Nat → Bool) (vs : Nat → Value) (a : Act) : List (Option Tmp) → Nat → Act
  | [], _ => a
  | d :: ds, k => putL li vs (if li k then a.put d (vs k) else a) ds (k + 1)

/-- What is known of values, by number. -/
def DepL (D : Nat → Value → World → Prop) (vs : Nat → Value) (w : World) : List Nat → Prop
  | [] => True
  | j :: js => D j (vs j) w ∧ DepL D vs w js

theorem DepL.get {D : Nat → Value → World → Prop} {vs : Nat → Value} {w : World} {l : List Nat} (h : ∀ j ∈ l, D j (vs j) w) : DepL D vs w l := by
  induction l with
  | nil => trivial
  | cons j js ih => exact ⟨h j (by simp), ih fun k hk => h k (by simp [hk])⟩

theorem DepL.at {D : Nat → Value → World → Prop} {vs : Nat → Value} {w : World} {l : List Nat} (h : DepL D vs w l) (j : Nat) (hj : l.contains j = true) : D j (vs j) w := by
  induction l with
  | nil => simp at hj
  | cons i is ih =>
    by_cases hij : j = i
    · subst hij; exact h.1
    · refine ih h.2 ?_
      simpa [hij] using hj

def NoPan (Q : Exit → Act → World → Prop) : Exit → Act → World → Prop
  | .panic _, _, _ => False
  | e, a, w => Q e a w

def depsOf (o : Oper) : List Nat := (o.after.toList.filter fun e => Region.binds .any e).map (·.on)

/-- Which of the statement's operations writes a slot. -/
def lookD : List (Option Tmp) → Nat → Tmp → Option Nat
  | [], _, _ => none
  | d :: ds, k, t => if d = some t then some k else lookD ds (k + 1) t

/-- What the operands read as. -/
def rho (a0 : Act) (ds : List (Option Tmp)) (vs : Nat → Value) : Operand → Value
  | .tmp t => match lookD ds 0 t with
    | some i => vs i
    | none => a0.tmps.getD t undef
  | x => a0.eval x

@[go_sem ↓] theorem rho_tmp (a0 : Act) (ds : List (Option Tmp)) (vs : Nat → Value) (t : Tmp) : rho a0 ds vs (.tmp t) = match lookD ds 0 t with | some i => vs i | none => a0.tmps.getD t undef := rfl
@[go_sem ↓] theorem rho_const (a0 : Act) (ds : List (Option Tmp)) (vs : Nat → Value) (v : Value) : rho a0 ds vs (.const v) = v := rfl
@[go_sem ↓] theorem rho_global (a0 : Act) (ds : List (Option Tmp)) (vs : Nat → Value) (g : Nat) : rho a0 ds vs (.global g) = .pointer (some ⟨g, 0, none⟩) := rfl
@[go_sem ↓] theorem rho_func (a0 : Act) (ds : List (Option Tmp)) (vs : Nat → Value) (f : FuncId) : rho a0 ds vs (.func f) = .func (.func f) #[] #[] := rfl
@[go_sem ↓] theorem lookD_nil (k : Nat) (t : Tmp) : lookD [] k t = none := rfl
@[go_sem ↓] theorem lookD_cons (d : Option Tmp) (ds : List (Option Tmp)) (k : Nat) (t : Tmp) : lookD (d :: ds) k t = if d = some t then some k else lookD ds (k + 1) t := rfl

def isB (want : Bool) : Value → Bool
  | .bool b => b == want
  | _ => false

@[go_sem] theorem isB_bool (want b : Bool) : isB want (.bool b) = (b == want) := rfl

def wantR (ρ : Operand → Value) (ops : Array Oper) (o : Oper) : Bool :=
  match o.guard with
  | none => true
  | some (j, want) => match (ops[j]?).bind (·.dst) with
    | some d => isB want (ρ (.tmp d))
    | none => false

@[go_sem] theorem wantR_none (ρ : Operand → Value) (ops : Array Oper) (d : Option Tmp) (op : Op) (t : TypeId) (p : String) (e : Array Edge) : wantR ρ ops ⟨d, op, t, p, e, none⟩ = true := rfl
@[go_sem] theorem wantR_some (ρ : Operand → Value) (ops : Array Oper) (d : Option Tmp) (op : Op) (t : TypeId) (p : String) (e : Array Edge) (j : Nat) (want : Bool) :
    wantR ρ ops ⟨d, op, t, p, e, some (j, want)⟩ = match (ops[j]?).bind (·.dst) with | some d => isB want (ρ (.tmp d)) | none => false := rfl

@[go_sem ↓] theorem execOp_call_rho (ρ : Operand → Value) (dst : Option Tmp) (f : FuncId) (xs : Array Operand) (ats : Array TypeId) (ty : TypeId) (pos : String) (after : Array Edge) (guard : Option (Nat × Bool)) (hf : ρ (.func f) = .func (.func f) #[] #[]) :
    execOp ρ { dst, op := .call { callee := .value (.func f), args := xs, argTypes := ats }, type := ty, pos, after, guard } = callFunc f (#[] ++ xs.map ρ ++ #[]) := by
  unfold execOp resolve
  simp only [hf]
  rfl

/-- What an operation comes to, its value told. -/
def opUpon (P : Program) (Q : Exit → Act → World → Prop) (R : Value → World → Prop) : Result Next → Prop
  | .ok (.value v) w' => R v w'
  | .ok .skip w' => R undef w'
  | .ok (.enter f args) w' => Calls P f args w' fun
    | .returned v, w'' => R v w''
    | .panicked _, _ => False
    | .outgrown, _ => LetsOut Q
  | .ok (.row row args) w' => Rows P row args w' R
  | _ => False

@[go_sem] theorem opUpon_value (P : Program) (Q : Exit → Act → World → Prop) (R : Value → World → Prop) (v : Value) (w : World) : opUpon P Q R (.ok (.value v) w) = R v w := rfl
@[go_sem] theorem opUpon_skip (P : Program) (Q : Exit → Act → World → Prop) (R : Value → World → Prop) (w : World) : opUpon P Q R (.ok .skip w) = R undef w := rfl
@[go_sem] theorem opUpon_enter (P : Program) (Q : Exit → Act → World → Prop) (R : Value → World → Prop) (f : FuncId) (args : Array Value) (w : World) : opUpon P Q R (.ok (.enter f args) w) = Calls P f args w fun
    | .returned v, w'' => R v w''
    | .panicked _, _ => False
    | .outgrown, _ => LetsOut Q := rfl
@[go_sem] theorem opUpon_row (P : Program) (Q : Exit → Act → World → Prop) (R : Value → World → Prop) (row : String) (args : Array Value) (w : World) : opUpon P Q R (.ok (.row row args) w) = Rows P row args w R := rfl

/-- What one operation has to do. -/
def OpOk (P : Program) (ops : Array Oper) (Q : Exit → Act → World → Prop) (D : Nat → Value → World → Prop) (k : Nat) (o : Oper) (ρ : Operand → Value) (w : World) : Prop :=
  ∀ R : Value → World → Prop, (∀ v w', Below w.heap.size w w' → D k v w' → R v w') →
    if wantR ρ ops o = true then opUpon P Q R ((execOp ρ o).run P w) else R undef w

theorem run_callFunc_body {P : Program} {f : FuncId} {fn : Func} (hf : P.funcs[f]? = some fn) (hname : (fn.name == "runtime.NumGoroutine") = false) (hb : fn.body.isSome = true) (args : Array Value) (w : World) :
    (callFunc f args).run P w = .ok (.enter f args) w := by
  have h1 : fn.name ≠ "runtime.NumGoroutine" := by simpa using hname
  obtain ⟨b, h2⟩ := Option.isSome_iff_exists.1 hb
  simp [callFunc, hf, h1, h2]

/-- A call, by its contract. -/
theorem opOk_call {P : Program} {ops : Array Oper} {Q : Exit → Act → World → Prop} {D : Nat → Value → World → Prop} {k : Nat} {ρ : Operand → Value} {w : World} {dst : Option Tmp} {f : FuncId} {xs : Array Operand} {ats : Array TypeId} {ty : TypeId} {pos : String} {after : Array Edge}
    (hρ : ρ (.func f) = .func (.func f) #[] #[]) {fn : Func} (hf : P.funcs[f]? = some fn) (hname : (fn.name == "runtime.NumGoroutine") = false) (hb : fn.body.isSome = true) {args : Array Value} (hargs : xs.map ρ = args)
    (h : Calls P f args w fun e w' => ∃ v, e = .returned v ∧ Below w.heap.size w w' ∧ D k v w') :
    OpOk P ops Q D k ⟨dst, .call { callee := .value (.func f), args := xs, argTypes := ats }, ty, pos, after, none⟩ ρ w := by
  intro R hR
  rw [wantR_none, if_pos rfl, execOp_call_rho (hf := hρ), hargs]
  have e : #[] ++ args ++ #[] = args := by simp
  rw [e, run_callFunc_body hf hname hb]
  refine h.mono ?_
  rintro e w' ⟨v, rfl, hbl, hd⟩
  exact hR v w' hbl hd

def OpsOk (P : Program) (ops : Array Oper) (Q : Exit → Act → World → Prop) (D : Nat → Value → World → Prop) (w0 : World) (A : (Nat → Value) → Operand → Value) : Nat → List Oper → Prop
  | _, [] => True
  | k, o :: l => (∀ vs w, Below w0.heap.size w0 w → DepL D vs w (depsOf o) → OpOk P ops Q D k o (A vs) w) ∧ OpsOk P ops Q D w0 A (k + 1) l

theorem OpsOk.get {P : Program} {ops : Array Oper} {Q : Exit → Act → World → Prop} {D : Nat → Value → World → Prop} {w0 : World} {A : (Nat → Value) → Operand → Value} : ∀ (l : List Oper) (k i : Nat) (o : Oper), OpsOk P ops Q D w0 A k l → l[i]? = some o →
    ∀ vs w, Below w0.heap.size w0 w → DepL D vs w (depsOf o) → OpOk P ops Q D (k + i) o (A vs) w
  | [], _, _, _, _, h => by simp at h
  | o' :: l, k, 0, o, h, ho => by simp at ho; subst ho; exact h.1
  | o' :: l, k, i + 1, o, h, ho => by
    have := OpsOk.get l (k + 1) i o h.2 (by simpa using ho)
    rwa [show k + (i + 1) = k + 1 + i from by omega]

/-- The checks on a statement's form. -/
def growB (ops : Array Oper) (n m : Nat) : Bool :=
  ((ops.toList.take n).all fun o => match o.dst with | some t => decide (t < m) | none => true) && Region.noSelect ops && decide (n < ops.size) && Region.sinkB .any ops n && Region.chainB .any ops n &&
  (List.range n).all (fun i => (List.range n).all fun j => decide (i = j) || decide (((ops[i]?).bind (·.dst)) = none) || decide ((ops[i]?).bind (·.dst) ≠ (ops[j]?).bind (·.dst))) &&
  (List.range n).all (fun i => (List.range n).all fun j => match ops[i]?, (ops[j]?).bind (·.dst) with
    | some o, some d => !(o.looksAt ops).contains d || Region.waitsFor .any ops i j
    | _, _ => true) &&
  (List.range n).all (fun i => match ops[i]? with
    | some o => o.after.toList.all fun e => decide (e.on < i)
    | none => true) &&
  Region.seqB .any ops (ops.size - n) n ((List.replicate n true ++ List.replicate (ops.size - n) false).toArray)

theorem put_size (a : Act) (d : Option Tmp) (v : Value) : (a.put d v).tmps.size = a.tmps.size := by
  cases d <;> simp [Act.put]

theorem put_defers (a : Act) (d : Option Tmp) (v : Value) : (a.put d v).defers = a.defers := by
  cases d <;> simp [Act.put]

theorem putL_put {li : Nat → Bool} {vs : Nat → Value} (d : Option Tmp) (v : Value) : ∀ (ds : List (Option Tmp)) (a : Act) (k : Nat),
    (∀ (j : Nat) (x : Option Tmp), ds[j]? = some x → ∀ t, d = some t → x ≠ some t) → putL li vs (a.put d v) ds k = (putL li vs a ds k).put d v
  | [], _, _, _ => rfl
  | x :: ds, a, k, h => by
    have hx : ∀ t, d = some t → x ≠ some t := h 0 x rfl
    have ih := fun a' => putL_put (li := li) (vs := vs) d v ds a' (k + 1) fun j y hy => h (j + 1) y (by simpa using hy)
    simp only [putL]
    by_cases hk : li k = true
    · simp only [hk, if_true]
      rw [← Act.put_comm a (vs k) v (fun t ht hd => hx t hd ht), ih]
    · simp only [hk]
      exact ih a

theorem putL_set {li : Nat → Bool} {vs : Nat → Value} (i : Nat) (v : Value) : ∀ (ds : List (Option Tmp)) (a : Act) (k : Nat) (d : Option Tmp), k ≤ i → ds[i - k]? = some d → li i = false →
    (∀ (j : Nat) (x : Option Tmp), ds[j]? = some x → j ≠ i - k → ∀ t, d = some t → x ≠ some t) →
    putL (fun j => if j = i then true else li j) (fun j => if j = i then v else vs j) a ds k = (putL li vs a ds k).put d v
  | [], _, _, _, _, h, _, _ => by simp at h
  | x :: ds, a, k, d, hk, hd, hli, hne => by
    simp only [putL]
    by_cases hki : k = i
    · subst hki
      have hxd : x = d := by simpa using hd
      subst hxd
      simp only [if_true, hli, Bool.false_eq_true, if_false]
      have h1 : ∀ (ds : List (Option Tmp)) (a : Act) (m : Nat), k < m → putL (fun j => if j = k then true else li j) (fun j => if j = k then v else vs j) a ds m = putL li vs a ds m := by
        intro ds
        induction ds with
        | nil => intro a m _; rfl
        | cons y ys ih =>
          intro a m hm
          have hmk : m ≠ k := by omega
          simp only [putL, hmk, if_false]
          exact ih _ _ (by omega)
      rw [h1 _ _ _ (by omega)]
      exact putL_put x v ds a (k + 1) fun j y hy => hne (j + 1) y (by simpa using hy) (by omega)
    · have hik : i - k = (i - (k + 1)) + 1 := by omega
      have hd' : ds[i - (k + 1)]? = some d := by rw [hik] at hd; simpa using hd
      simp only [hki, if_false]
      exact putL_set i v ds _ (k + 1) d (by omega) hd' hli fun j y hy hj => hne (j + 1) y (by simpa using hy) (by omega)

/-- Two frames that an operation can't tell apart. -/
def AgreeOn (ops : Array Oper) (o : Oper) (a a' : Act) : Prop := a.tmps.size = a'.tmps.size ∧ ∀ t ∈ o.looksAt ops, a.tmps[t]? = a'.tmps[t]?

theorem AgreeOn.put {ops : Array Oper} {o : Oper} {a a' : Act} (h : AgreeOn ops o a a') (d : Option Tmp) (v : Value) : AgreeOn ops o (a.put d v) (a'.put d v) := by
  refine ⟨by rw [put_size, put_size]; exact h.1, fun t ht => ?_⟩
  cases d with
  | none => exact h.2 t ht
  | some d =>
    simp only [Act.put]
    rw [Array.getElem?_setIfInBounds, Array.getElem?_setIfInBounds, h.1, h.2 t ht]

theorem AgreeOn.putRight {ops : Array Oper} {o : Oper} {a a' : Act} (h : AgreeOn ops o a a') (d : Option Tmp) (hd : ∀ t, d = some t → t ∉ o.looksAt ops) (v : Value) : AgreeOn ops o a (a'.put d v) := by
  refine ⟨by rw [put_size]; exact h.1, fun t ht => ?_⟩
  cases d with
  | none => exact h.2 t ht
  | some d =>
    have : d ≠ t := fun e => hd d rfl (e ▸ ht)
    simp only [Act.put]
    rw [Array.getElem?_setIfInBounds_ne this]
    exact h.2 t ht

theorem putL_agree {ops : Array Oper} {o : Oper} {li : Nat → Bool} {vs : Nat → Value} : ∀ (ds : List (Option Tmp)) (a a' : Act) (k : Nat), AgreeOn ops o a a' →
    (∀ (j : Nat) (x : Option Tmp), ds[j]? = some x → li (k + j) = false → ∀ t, x = some t → t ∉ o.looksAt ops) → AgreeOn ops o (putL li vs a ds k) (putAll a' ds k vs)
  | [], _, _, _, h, _ => h
  | x :: ds, a, a', k, h, hn => by
    simp only [putL, putAll]
    refine putL_agree ds _ _ (k + 1) ?_ fun j y hy hl => hn (j + 1) y (by simpa using hy) (by rwa [show k + (j + 1) = k + 1 + j from by omega])
    by_cases hk : li k = true
    · simp only [hk, if_true]; exact h.put x _
    · simp only [hk]
      exact h.putRight x (hn 0 x rfl (by simpa using hk)) _

theorem AgreeOn.exec {ops : Array Oper} {o : Oper} {a a' : Act} (h : AgreeOn ops o a a') (hs : ∀ cs b, o.op ≠ .select cs b) : execOp a.eval o = execOp a'.eval o :=
  execOp_congr o hs fun x hx => by
    cases x with
    | tmp t =>
      have ht : t ∈ o.looksAt ops := List.mem_append_left _ (List.mem_filterMap.2 ⟨.tmp t, by simpa using hx, rfl⟩)
      have := h.2 t ht
      simp only [Act.eval, Array.getD_eq_getD_getElem?, this]
    | _ => rfl

theorem AgreeOn.wants {ops : Array Oper} {o : Oper} {a a' : Act} (h : AgreeOn ops o a a') : Region.wanted o (yielded ops a.tmps) = Region.wanted o (yielded ops a'.tmps) := by
  unfold Region.wanted
  cases hg : o.guard with
  | none => rfl
  | some gw =>
    obtain ⟨g, want⟩ := gw
    have : yielded ops a.tmps g = yielded ops a'.tmps g := by
      unfold yielded
      cases ht : (ops[g]?).bind (·.dst) with
      | none => rfl
      | some t =>
        have hm : t ∈ o.looksAt ops := List.mem_append_right _ (by simp [hg, ht])
        simp only [Option.bind_some]
        rw [h.2 t hm]
    simp only [this]

theorem put_same {A a : Act} {d : Option Tmp} {u v : Value} (hs : A.tmps.size = a.tmps.size) (h : A.put d u = A.put d v) : a.put d u = a.put d v := by
  cases d with
  | none => rfl
  | some d =>
    by_cases hd : d < A.tmps.size
    · have h1 : (A.put (some d) u).tmps[d]? = (A.put (some d) v).tmps[d]? := by rw [h]
      simp [Act.put, hd] at h1
      rw [h1]
    · simp only [Act.put]
      have hd' : a.tmps.size ≤ d := Nat.le_trans (Nat.le_of_eq hs.symm) (Nat.le_of_not_lt hd)
      rw [Array.setIfInBounds_eq_of_size_le hd', Array.setIfInBounds_eq_of_size_le hd']

theorem putAll_size : ∀ (ds : List (Option Tmp)) (a : Act) (k : Nat) (vs : Nat → Value), (putAll a ds k vs).tmps.size = a.tmps.size
  | [], _, _, _ => rfl
  | d :: ds, a, k, vs => by simp only [putAll]; rw [putAll_size ds, put_size]

theorem lookD_none : ∀ (ds : List (Option Tmp)) (k : Nat) (t : Tmp), (∀ d ∈ ds, d ≠ some t) → lookD ds k t = none
  | [], _, _, _ => rfl
  | d :: ds, k, t, h => by
    simp only [lookD]
    rw [if_neg (h d (by simp))]
    exact lookD_none ds (k + 1) t fun x hx => h x (by simp [hx])

theorem putAll_none : ∀ (ds : List (Option Tmp)) (a : Act) (k : Nat) (vs : Nat → Value) (t : Tmp), (∀ d ∈ ds, d ≠ some t) → (putAll a ds k vs).tmps[t]? = a.tmps[t]?
  | [], _, _, _, _, _ => rfl
  | d :: ds, a, k, vs, t, h => by
    simp only [putAll]
    rw [putAll_none ds _ _ _ t fun x hx => h x (by simp [hx])]
    cases d with
    | none => rfl
    | some d =>
      have : d ≠ t := fun e => h (some d) (by simp) (by rw [e])
      simp only [Act.put]
      rw [Array.getElem?_setIfInBounds_ne this]

theorem putAll_look : ∀ (ds : List (Option Tmp)) (a : Act) (k : Nat) (vs : Nat → Value) (t : Tmp), (∀ d ∈ ds, ∀ t, d = some t → t < a.tmps.size) →
    (∀ (i j : Nat) (x y : Option Tmp), ds[i]? = some x → ds[j]? = some y → i ≠ j → ∀ t, x = some t → y ≠ some t) →
    (putAll a ds k vs).tmps[t]? = match lookD ds k t with | some i => some (vs i) | none => a.tmps[t]?
  | [], _, _, _, _, _, _ => rfl
  | d :: ds, a, k, vs, t, hb, hd => by
    simp only [putAll, lookD]
    by_cases h : d = some t
    · rw [if_pos h]
      subst h
      have hnot : ∀ x ∈ ds, x ≠ some t := fun x hx => by
        obtain ⟨j, hj, rfl⟩ := List.getElem_of_mem hx
        exact hd 0 (j + 1) (some t) ds[j] rfl (by simp [hj]) (by omega) t rfl
      rw [putAll_none ds _ _ _ t hnot]
      have := hb (some t) (by simp) t rfl
      simp [Act.put, this]
    · rw [if_neg h]
      rw [putAll_look ds (a.put d (vs k)) (k + 1) vs t (fun x hx u hu => by rw [put_size]; exact hb x (by simp [hx]) u hu)
        (fun i j x y hi hj hij => hd (i + 1) (j + 1) x y (by simpa using hi) (by simpa using hj) (by omega))]
      have : (a.put d (vs k)).tmps[t]? = a.tmps[t]? := by
        cases d with
        | none => rfl
        | some d =>
          have : d ≠ t := fun e => h (by rw [e])
          simp only [Act.put]
          rw [Array.getElem?_setIfInBounds_ne this]
      rw [this]

theorem rho_eval {a0 : Act} {ds : List (Option Tmp)} {vs : Nat → Value} (hb : ∀ d ∈ ds, ∀ t, d = some t → t < a0.tmps.size)
    (hd : ∀ (i j : Nat) (x y : Option Tmp), ds[i]? = some x → ds[j]? = some y → i ≠ j → ∀ t, x = some t → y ≠ some t) : (putAll a0 ds 0 vs).eval = rho a0 ds vs := by
  funext x
  cases x with
  | tmp t =>
    simp only [Act.eval, rho, Array.getD_eq_getD_getElem?]
    rw [putAll_look ds a0 0 vs t hb hd]
    cases lookD ds 0 t <;> rfl
  | _ => rfl

theorem rho_want {a0 : Act} {ds : List (Option Tmp)} {vs : Nat → Value} {ops : Array Oper} {o : Oper} (he : (putAll a0 ds 0 vs).eval = rho a0 ds vs) :
    Region.wanted o (yielded ops (putAll a0 ds 0 vs).tmps) = wantR (rho a0 ds vs) ops o := by
  unfold Region.wanted wantR
  cases hg : o.guard with
  | none => rfl
  | some gw =>
    obtain ⟨g, want⟩ := gw
    simp only
    cases ht : (ops[g]?).bind (·.dst) with
    | none => simp [yielded, ht]
    | some t =>
      have h1 : (putAll a0 ds 0 vs).eval (.tmp t) = rho a0 ds vs (.tmp t) := by rw [he]
      simp only [Act.eval, Array.getD_eq_getD_getElem?] at h1
      simp only [yielded, ht, Option.bind_some]
      rw [← h1]
      cases hv : (putAll a0 ds 0 vs).tmps[t]? with
      | none => rfl
      | some v => cases v <;> rfl

theorem opOk_wp {P : Program} {ops : Array Oper} {Q : Exit → Act → World → Prop} {D : Nat → Value → World → Prop} {i : Nat} {o : Oper} {A a : Act} {ρ : Operand → Value} {w : World} {K : Act → World → Prop}
    (hi : ops[i]? = some o) (hs : ∀ cs b, o.op ≠ .select cs b) (hag : AgreeOn ops o a A) (he : A.eval = ρ) (hwr : Region.wanted o (yielded ops A.tmps) = wantR ρ ops o) (h : OpOk P ops Q D i o ρ w)
    (hK : ∀ v w', Below w.heap.size w w' → D i v w' → K (a.put o.dst v) w') : wpOp P ops Q i K a w := by
  have h := h (fun v w' => K (a.put o.dst v) w') hK
  unfold wpOp
  simp only [hi]
  rw [hag.wants, hwr]
  split at h
  · rename_i hw
    rw [if_pos hw]
    refine .inl ?_
    unfold Oper.wp
    rw [hag.exec hs, he]
    generalize (execOp ρ o).run P w = r at *
    cases r with
    | ok n w' =>
      cases n <;> simp only [Oper.upon, opUpon] at h ⊢
      case value u => exact h
      case skip => exact h
      case enter f args =>
        refine Calls.mono h fun e w'' he => ?_
        cases e with
        | returned u => exact he
        | panicked c => exact (he : False).elim
        | outgrown => exact he
      case row row args => exact Rows.mono h fun u w'' he => he
    | halt x w' => exact (h : False).elim
  · rename_i hw
    rw [if_neg hw]
    exact h

def unl (listed : Array Bool) (n : Nat) : Nat := ((List.range n).filter fun i => !listed.getD i false).length

theorem filter_set (listed : Array Bool) (i : Nat) (hi : i < listed.size) (hf : listed.getD i false = false) : ∀ (l : List Nat), l.Nodup →
    (l.filter fun j => !(listed.setIfInBounds i true).getD j false).length + (if i ∈ l then 1 else 0) = (l.filter fun j => !listed.getD j false).length
  | [], _ => by simp
  | j :: l, hnd => by
    have ih := filter_set listed i hi hf l (List.nodup_cons.1 hnd).2
    by_cases hji : j = i
    · subst hji
      have hnot : j ∉ l := (List.nodup_cons.1 hnd).1
      have e1 : (listed.setIfInBounds j true).getD j false = true := by simp [hi]
      rw [List.filter_cons, List.filter_cons]
      simp only [e1, hf, Bool.not_true, Bool.false_eq_true, if_false, Bool.not_false, if_true, List.length_cons, List.mem_cons, true_or]
      simp only [hnot, if_false] at ih
      omega
    · have e1 : (listed.setIfInBounds i true).getD j false = listed.getD j false := getD_set_ne false (Ne.symm hji)
      have e2 : (i ∈ j :: l) ↔ i ∈ l := by simp [Ne.symm hji]
      rw [List.filter_cons, List.filter_cons, e1]
      simp only [e2]
      cases listed.getD j false
      · simp only [Bool.not_false, if_true, List.length_cons]; omega
      · simp only [Bool.not_true, Bool.false_eq_true, if_false]; exact ih

theorem unl_set {listed : Array Bool} {n i : Nat} (hi : i < listed.size) (hin : i < n) (hf : listed.getD i false = false) : unl (listed.setIfInBounds i true) n + 1 = unl listed n := by
  have := filter_set listed i hi hf (List.range n) List.nodup_range
  simp only [List.mem_range, hin, if_true] at this
  exact this

theorem unl_zero {listed : Array Bool} {n : Nat} (h : unl listed n = 0) : ∀ i, i < n → listed.getD i false = true := by
  intro i hi
  have h1 := List.eq_nil_of_length_eq_zero h
  have h2 := List.filter_eq_nil_iff.1 h1 i (List.mem_range.2 hi)
  simpa using h2

theorem unl_pos {listed : Array Bool} {n : Nat} (h : unl listed n ≠ 0) : ∃ i, i < n ∧ listed.getD i false = false := by
  have h1 : (List.range n).filter (fun i => !listed.getD i false) ≠ [] := fun e => h (by unfold unl; rw [e]; rfl)
  obtain ⟨i, hi⟩ := List.exists_mem_of_ne_nil _ h1
  have := List.mem_filter.1 hi
  exact ⟨i, List.mem_range.1 this.1, by simpa using this.2⟩

section
variable {P : Program} {Q : Exit → Act → World → Prop} {l : List Oper} {n : Nat} {D : Nat → Value → World → Prop} {w0 : World} {a0 : Act}

theorem grow_main (hB : growB l.toArray n a0.tmps.size = true) (hD : ∀ i v w w', D i v w → Below w.heap.size w w' → D i v w')
    (hop : OpsOk P l.toArray Q D w0 (fun vs => rho a0 ((l.take n).map (·.dst)) vs) 0 (l.take n))
    (hend : ∀ vs w', Below w0.heap.size w0 w' → DepL D vs w' (List.range n) → wpList P l.toArray Q (l.drop n) (putAll a0 ((l.take n).map (·.dst)) 0 vs) w') :
    ∀ (m : Nat) (listed : Array Bool) (vs : Nat → Value) (w : World), unl listed n = m → HeadInv .any l.toArray n listed → Below w0.heap.size w0 w →
      (∀ i, i < n → listed.getD i false = true → D i (vs i) w) →
      wpAny P .any l.toArray Q (m + (l.length - n)) listed (putL (fun i => listed.getD i false) vs a0 ((l.take n).map (·.dst)) 0) w := by
  unfold growB at hB
  simp only [Bool.and_eq_true] at hB
  obtain ⟨⟨⟨⟨⟨⟨⟨⟨hbd, hsel⟩, hn0⟩, hs⟩, hc⟩, hdst⟩, hlook⟩, hback⟩, hseq⟩ := hB
  have hn : n < l.length := by simpa using hn0
  have hts : (l.take n).length = n := by rw [List.length_take]; omega
  have hops : ∀ i, i < n → ∃ o, l.toArray[i]? = some o ∧ (l.take n)[i]? = some o := fun i hi => by
    have : i < l.length := by omega
    exact ⟨l[i], by simp [this], by rw [List.getElem?_take, if_pos hi]; simp [this]⟩
  have hdsts : ∀ i o, i < n → l.toArray[i]? = some o → ((l.take n).map (·.dst))[i]? = some o.dst := fun i o hi ho => by
    obtain ⟨o', h1, h2⟩ := hops i hi
    have : o' = o := Option.some.inj (h1.symm.trans ho)
    subst this
    rw [List.getElem?_map, h2]; rfl
  have hdb : ∀ d ∈ (l.take n).map (·.dst), ∀ t, d = some t → t < a0.tmps.size := fun d hd t ht => by
    obtain ⟨o, ho, rfl⟩ := List.mem_map.1 hd
    have := List.all_eq_true.1 hbd o (by simpa using ho)
    rw [ht] at this
    simpa using this
  have hdd : ∀ (i j : Nat) (x y : Option Tmp), ((l.take n).map (·.dst))[i]? = some x → ((l.take n).map (·.dst))[j]? = some y → i ≠ j → ∀ t, x = some t → y ≠ some t := fun i j x y hx hy hij t ht => by
    have hin : i < n := by
      have h0 := (List.getElem?_eq_some_iff.1 hx).1
      rw [List.length_map, hts] at h0
      exact h0
    have hjn : j < n := by
      have h0 := (List.getElem?_eq_some_iff.1 hy).1
      rw [List.length_map, hts] at h0
      exact h0
    obtain ⟨oi, hoi, _⟩ := hops i hin
    obtain ⟨oj, hoj, _⟩ := hops j hjn
    have hx' := hdsts i oi hin hoi
    have hy' := hdsts j oj hjn hoj
    rw [hx] at hx'
    rw [hy] at hy'
    have h1 := List.all_eq_true.1 (List.all_eq_true.1 hdst i (List.mem_range.2 hin)) j (List.mem_range.2 hjn)
    simp only [hoi, hoj, Option.bind_some, hij, decide_false, Bool.false_or, Bool.or_eq_true, decide_eq_true_eq] at h1
    rw [Option.some.inj hx'] at ht
    rw [Option.some.inj hy']
    rcases h1 with h1 | h1
    · rw [h1] at ht; cases ht
    · rw [← ht]; exact fun e => h1 e.symm
  intro m
  induction m with
  | zero =>
    intro listed vs w hm inv hb hd
    have hall := unl_zero hm
    have hlist : listed = (List.replicate n true ++ List.replicate (l.toArray.size - n) false).toArray := by
      apply Array.ext
      · rw [inv.size]; simp; omega
      · intro i h1 h2
        have h1' : i < l.length := by have := inv.size; simp at this; omega
        by_cases hin : i < n
        · have := hall i hin
          simp [h1] at this
          rw [this]; simp [List.getElem_append, hin]
        · have := inv.tail i (by omega) (by simpa using h1')
          simp [h1] at this
          rw [this]; simp [List.getElem_append, hin]
    have hdl : (l.drop n).length = l.toArray.size - n := by simp
    have hput : putL (fun i => listed.getD i false) vs a0 ((l.take n).map (·.dst)) 0 = putAll a0 ((l.take n).map (·.dst)) 0 vs := by
      have : ∀ (ds : List (Option Tmp)) (a : Act) (k : Nat), k + ds.length ≤ n → putL (fun i => listed.getD i false) vs a ds k = putAll a ds k vs := by
        intro ds
        induction ds with
        | nil => intro a k _; rfl
        | cons d ds ih =>
          intro a k hk
          simp only [List.length_cons] at hk
          simp only [putL, putAll, hall k (by omega), if_true]
          exact ih _ _ (by omega)
      exact this _ _ _ (by simp; omega)
    rw [hput, Nat.zero_add, show l.length - n = (l.drop n).length from by simp]
    exact wpAny_of_seq (md := .any) (Q' := Q) (l.drop n) n listed _ w (fun j => by simp [List.getElem?_drop]) (by rw [hdl, hlist]; exact hseq)
      (hend vs w hb (DepL.get fun j hj => hd j (List.mem_range.1 hj) (hall j (List.mem_range.1 hj))))
  | succ m ih =>
    intro listed vs w hm inv hb hd
    obtain ⟨i0, hi0, hf0⟩ := unl_pos (by rw [hm]; omega : unl listed n ≠ 0)
    have hsz : listed.size = l.length := by simpa using inv.size
    have hrn : ∀ j ∈ Region.ready .any l.toArray listed, j < n := fun j hj => by
      rcases Nat.lt_or_ge j n with h | h
      · exact h
      · exact absurd hj (tail_waits hs hc (by simpa using hn) inv _ i0 rfl hi0 (getD_in (by omega) hf0) j h)
    have hne : Region.ready .any l.toArray listed ≠ [] := by
      -- the first that is not listed may come up
      have : ∃ k, (k < n ∧ listed.getD k false = false) ∧ ∀ j, j < k → listed.getD j false = true := by
        have : ∀ b, ∀ k, k ≤ b → (k < n ∧ listed.getD k false = false) → ∃ k, (k < n ∧ listed.getD k false = false) ∧ ∀ j, j < k → listed.getD j false = true := by
          intro b
          induction b with
          | zero => intro k hk h; exact ⟨k, h, fun j hj => by omega⟩
          | succ b ihb =>
            intro k hk h
            by_cases hex : ∃ j, j < k ∧ listed.getD j false = false
            · obtain ⟨j, hj, hjf⟩ := hex
              exact ihb j (by omega) ⟨by omega, hjf⟩
            · exact ⟨k, h, fun j hj => by
                cases hv : listed.getD j false with
                | true => rfl
                | false => exact absurd ⟨j, hj, hv⟩ hex⟩
        exact this i0 i0 (Nat.le_refl _) ⟨hi0, hf0⟩
      obtain ⟨k, ⟨hk, hkf⟩, hmin⟩ := this
      obtain ⟨o, ho, _⟩ := hops k hk
      have hr : k ∈ Region.ready .any l.toArray listed := by
        refine mem_ready.2 ⟨getD_in (by omega) hkf, o, ho, fun e he _ => ?_⟩
        have h1 := List.all_eq_true.1 hback k (List.mem_range.2 hk)
        simp only [ho] at h1
        have h2 := List.all_eq_true.1 h1 e (by simpa using he)
        exact hmin _ (by simpa using h2)
      intro e
      rw [e] at hr
      cases hr
    rw [show m + 1 + (l.length - n) = (m + (l.length - n)) + 1 from by omega]
    refine ⟨fun h => absurd h hne, fun i hi => ?_⟩
    have hin := hrn i hi
    obtain ⟨hun, o, ho, hdeps⟩ := mem_ready.1 hi
    have hunf := getD_both hun
    obtain ⟨o', ho', hot⟩ := hops i hin
    have : o' = o := Option.some.inj (ho'.symm.trans ho)
    subst this
    have hag : AgreeOn l.toArray o' (putL (fun i => listed.getD i false) vs a0 ((l.take n).map (·.dst)) 0) (putAll a0 ((l.take n).map (·.dst)) 0 vs) := by
      refine putL_agree _ _ _ 0 ⟨rfl, fun _ _ => rfl⟩ fun j x hx hl t ht => ?_
      rw [Nat.zero_add] at hl
      have hjn : j < n := by
        have h0 := (List.getElem?_eq_some_iff.1 hx).1
        rw [List.length_map, hts] at h0
        exact h0
      obtain ⟨oj, hoj, _⟩ := hops j hjn
      have hx' := hdsts j oj hjn hoj
      rw [hx] at hx'
      have hxe : oj.dst = some t := by rw [← ht]; exact (Option.some.inj hx').symm
      intro hm
      have h1 := List.all_eq_true.1 (List.all_eq_true.1 hlook i (List.mem_range.2 hin)) j (List.mem_range.2 hjn)
      simp only [ho, hoj, Option.bind_some, hxe] at h1
      have h2 : (o'.looksAt l.toArray).contains t = true := by simpa using hm
      rw [h2] at h1
      simp only [Bool.not_true, Bool.false_or] at h1
      obtain ⟨o'', ho'', e, he, hb', hon⟩ := Region.waitsFor_spec h1
      have : o'' = o' := Option.some.inj (ho''.symm.trans ho)
      subst this
      have h3 := hdeps e he hb'
      rw [hon] at h3
      rw [h3] at hl
      cases hl
    have he : (putAll a0 ((l.take n).map (·.dst)) 0 vs).eval = rho a0 ((l.take n).map (·.dst)) vs := rho_eval hdb hdd
    have hok := OpsOk.get (l.take n) 0 i o' hop hot vs w hb (DepL.get fun j hj => by
      obtain ⟨e, he, rfl⟩ := List.mem_map.1 hj
      have he' := List.mem_filter.1 he
      have h3 := hdeps e (by simpa using he'.1) he'.2
      have hei : e.on < i := by
        have h1 := List.all_eq_true.1 hback i (List.mem_range.2 hin)
        simp only [ho] at h1
        simpa using List.all_eq_true.1 h1 e he'.1
      exact hd _ (by omega) h3)
    rw [Nat.zero_add] at hok
    refine opOk_wp ho (fun cs b => Region.noSelect_spec hsel i o' cs b ho) hag he (rho_want he) hok fun v w' hb1 hdv => ?_
    have hset := putL_set (li := fun i => listed.getD i false) (vs := vs) i v ((l.take n).map (·.dst)) a0 0 o'.dst (Nat.zero_le _) (by simpa using hdsts i o' hin ho) hunf
      (fun j x hx hji t ht => by
        have hjn : j < n := by
          have h0 := (List.getElem?_eq_some_iff.1 hx).1
          rw [List.length_map, hts] at h0
          exact h0
        obtain ⟨oj, hoj, _⟩ := hops j hjn
        have hx' := hdsts j oj hjn hoj
        rw [hx] at hx'
        have h1 := List.all_eq_true.1 (List.all_eq_true.1 hdst i (List.mem_range.2 hin)) j (List.mem_range.2 hjn)
        simp only [ho, hoj, Option.bind_some] at h1
        have hij : i ≠ j := by omega
        simp only [hij, decide_false, Bool.false_or, Bool.or_eq_true, decide_eq_true_eq] at h1
        rcases h1 with h1 | h1
        · rw [h1] at ht; cases ht
        · rw [Option.some.inj hx', ← ht]; exact fun e => h1 e.symm)
    have hli : (fun j => if j = i then true else listed.getD j false) = fun j => (listed.setIfInBounds i true).getD j false := by
      funext j
      by_cases hji : j = i
      · subst hji; simp [show j < listed.size from by omega]
      · rw [if_neg hji, getD_set_ne false (Ne.symm hji)]
    rw [hli] at hset
    rw [← hset]
    refine ih (listed.setIfInBounds i true) (fun j => if j = i then v else vs j) w' ?_ (inv.set hi hin) (hb.trans (hb1.mono hb.size)) fun j hj hlj => ?_
    · have := unl_set (listed := listed) (n := n) (i := i) (by omega) hin hunf
      omega
    · by_cases hji : j = i
      · subst hji; simpa using hdv
      · simp only [hji, if_false]
        rw [getD_set_ne false (Ne.symm hji)] at hlj
        exact hD j _ _ _ (hd j hj hlj) hb1

theorem wp_region_grow {id : Nat} (n : Nat) (D : Nat → Value → World → Prop) (hm : P.follows .mixedOrders = true) (hB : growB l.toArray n a0.tmps.size = true)
    (hD : ∀ i v w w', D i v w → Below w.heap.size w w' → D i v w')
    (hop : OpsOk P l.toArray Q D w0 (fun vs => rho a0 ((l.take n).map (·.dst)) vs) 0 (l.take n))
    (hend : ∀ vs w', Below w0.heap.size w0 w' → DepL D vs w' (List.range n) → wpList P l.toArray Q (l.drop n) (putAll a0 ((l.take n).map (·.dst)) 0 vs) w') :
    (Code.region id l.toArray true).wp P Q a0 w0 := by
  refine wp_region_any hm ?_
  have hn : n < l.length := by
    unfold growB at hB
    simp only [Bool.and_eq_true] at hB
    obtain ⟨⟨⟨⟨⟨⟨⟨⟨_, _⟩, hn0⟩, _⟩, _⟩, _⟩, _⟩, _⟩, _⟩ := hB
    simpa using hn0
  have inv0 : HeadInv .any l.toArray n (Array.replicate l.toArray.size false) :=
    ⟨by simp, fun j oj _ hl => (by rw [getD_replicate_false] at hl; cases hl), fun t _ ht => getD_in (by simpa using ht) (getD_replicate_false _ _)⟩
  have hu : unl (Array.replicate l.toArray.size false) n = n := by
    unfold unl
    rw [List.filter_eq_self.2 (fun i _ => by rw [getD_replicate_false]; rfl)]
    simp
  have := grow_main hB hD hop hend n (Array.replicate l.toArray.size false) (fun _ => undef) { w0 with drawn := w0.drawn + 1 } hu inv0 ((Below.refl _ _).drew) (fun i _ hl => by rw [getD_replicate_false] at hl; cases hl)
  have hz : (fun i => (Array.replicate l.toArray.size false).getD i false) = fun _ => false := funext fun i => getD_replicate_false _ i
  have hput : putL (fun i => (Array.replicate l.toArray.size false).getD i false) (fun _ => undef) a0 ((l.take n).map (·.dst)) 0 = a0 := by
    rw [hz]
    have : ∀ (ds : List (Option Tmp)) (a : Act) (k : Nat), putL (fun _ => false) (fun _ => undef) a ds k = a := by
      intro ds
      induction ds with
      | nil => intro a k; rfl
      | cons d ds ih => intro a k; simp only [putL, Bool.false_eq_true, if_false]; exact ih _ _
    exact this _ _ _
  rw [hput] at this
  rw [show l.toArray.size = n + (l.length - n) from by simp; omega]
  rw [show n + (l.length - n) = l.toArray.size from by simp; omega] at this ⊢
  exact this
end

/-- What is known of a value and stays so while memory is only made. -/
structure SP where
  p : Value → World → Prop
  st : ∀ v w w', p v w → Below w.heap.size w w' → p v w'

def SP.eq (x : Value) : SP := ⟨fun v _ => v = x, fun _ _ _ h _ => h⟩
def SP.any : SP := ⟨fun _ _ => True, fun _ _ _ h _ => h⟩
/-- A slice that owns these cells. -/
def SP.row (B : Nat) (e : TypeId) (size n : Nat) (xs : List Value) : SP :=
  ⟨fun v w => ∃ ao cap, v = .slice ao n cap ∧ w.ownsRow B e size (.slice ao n cap) n xs, fun _ _ _ h hb => let ⟨ao, cap, e, ho⟩ := h; ⟨ao, cap, e, own_below ho hb (Nat.le_refl _)⟩⟩
/-- A pointer to the head of a block that is known whole. -/
def SP.blk (B : Nat) (cs : Array Value) (e : TypeId) : SP :=
  ⟨fun v w => ∃ g, v = .pointer (some ⟨g, 0, none⟩) ∧ B ≤ g ∧ Blk w g cs e, fun _ _ _ h hb => let ⟨g, e, hB, h⟩ := h; ⟨g, e, hB, h.below hb h.lt⟩⟩

def spD (L : List SP) (i : Nat) (v : Value) (w : World) : Prop := (L.getD i SP.any).p v w
theorem spD_st (L : List SP) (i : Nat) (v : Value) (w w' : World) (h : spD L i v w) (hb : Below w.heap.size w w') : spD L i v w' := (L.getD i SP.any).st v w w' h hb
end Go.Proofs.Ytafanlbfbfbeoaa
