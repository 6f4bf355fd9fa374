import PyProof.Rows.All
import Wide.All
import OpenK.AllK
import Wide.FinOn
import PySem.Challenge.RW_dm0025_10
set_option Elab.async false
set_option compiler.extract_closed false
set_option linter.unusedVariables false
set_option linter.unusedSimpArgs false

section
open PySem PySem.W PyProof.Rows
namespace Mine

/-- plain data -/
inductive D where
  | none
  | bool (b : Bool)
  | int (i : Int)
  | flt (x : UInt64)
  | typ (n : String)
  | lst (xs : List D)
  | tup (xs : List D)

noncomputable def PTup (h : Heap) (a : Addr) (items : Array Value) : Prop := ∃ n, h.get? a = some { cls := .type "tuple", data := .seq items n }
theorem PTup.isTuple {h : Heap} {a : Addr} {items : Array Value} (x : PTup h a items) : h.IsTuple a items := let ⟨n, ho⟩ := x; ⟨_, ho, rfl, n, rfl⟩

mutual
/-- the value v stands for the datum, by objects outside of X -/
noncomputable def Rep (h : Heap) (X : List Addr) : D → Value → Prop
  | .none, v => v = .none
  | .bool b, v => v = .bool b
  | .int i, v => ∃ t, v = .int i t
  | .flt x, v => ∃ t, v = .float x t ∧ t ≠ 0
  | .typ n, v => v = .type n
  | .lst ds, v => ∃ a vs, v = .ref a ∧ a ∉ X ∧ h.PlainList a (List.toArray vs) ∧ Reps h X ds vs
  | .tup ds, v => ∃ a vs, v = .ref a ∧ a ∉ X ∧ PTup h a (List.toArray vs) ∧ Reps h X ds vs
noncomputable def Reps (h : Heap) (X : List Addr) : List D → List Value → Prop
  | [], vs => vs = []
  | d :: ds, vs => ∃ v vs', vs = v :: vs' ∧ Rep h X d v ∧ Reps h X ds vs'
end

theorem isTuple_at {h h' : Heap} {a : Addr} {items} (x : PTup h a items) (e : ∀ o, h.get? a = some o → h'.get? a = some o) : PTup h' a items :=
  let ⟨n, ho⟩ := x; ⟨n, e _ ho⟩

mutual
theorem Rep.mono {h h' : Heap} {X X' : List Addr} (hk : ∀ a o, a ∉ X → h.get? a = some o → h'.get? a = some o ∧ a ∉ X') : ∀ {d : D} {v : Value}, Rep h X d v → Rep h' X' d v
  | .none, _, r => r
  | .bool _, _, r => r
  | .int _, _, r => r
  | .flt _, _, r => r
  | .typ _, _, r => r
  | .lst ds, _, ⟨a, vs, e, ha, hl, hr⟩ => by
    obtain ⟨n, ho⟩ := id hl
    exact ⟨a, vs, e, (hk a _ ha ho).2, hl.at fun o e => (hk a o ha e).1, Reps.mono hk hr⟩
  | .tup ds, _, ⟨a, vs, e, ha, hl, hr⟩ => by
    obtain ⟨n, ho⟩ := id hl
    exact ⟨a, vs, e, (hk a _ ha ho).2, isTuple_at hl fun o e => (hk a o ha e).1, Reps.mono hk hr⟩
theorem Reps.mono {h h' : Heap} {X X' : List Addr} (hk : ∀ a o, a ∉ X → h.get? a = some o → h'.get? a = some o ∧ a ∉ X') : ∀ {ds : List D} {vs : List Value}, Reps h X ds vs → Reps h' X' ds vs
  | [], _, r => r
  | d :: ds, _, ⟨v, vs', e, r, rs⟩ => ⟨v, vs', e, Rep.mono hk r, Reps.mono hk rs⟩
end

theorem Rep.keeps {h h' : Heap} {X : List Addr} {d : D} {v : Value} (r : Rep h X d v) (hk : ∀ a o, h.get? a = some o → h'.get? a = some o) : Rep h' X d v :=
  r.mono fun a o ha e => ⟨hk a o e, ha⟩
theorem Reps.keeps {h h' : Heap} {X : List Addr} {ds : List D} {vs : List Value} (r : Reps h X ds vs) (hk : ∀ a o, h.get? a = some o → h'.get? a = some o) : Reps h' X ds vs :=
  r.mono fun a o ha e => ⟨hk a o e, ha⟩

theorem Reps.length {h : Heap} {X : List Addr} : ∀ {ds : List D} {vs : List Value}, Reps h X ds vs → vs.length = ds.length
  | [], _, r => by rw [r]; rfl
  | _ :: _, _, ⟨_, _, e, _, rs⟩ => by rw [e, List.length_cons, List.length_cons, Reps.length rs]
theorem Reps.get {h : Heap} {X : List Addr} : ∀ {ds : List D} {vs : List Value}, Reps h X ds vs → ∀ {i : Nat} {v : Value}, vs[i]? = some v → ∃ d, ds[i]? = some d ∧ Rep h X d v
  | [], _, r, i, v, e => by rw [r] at e; simp at e
  | d :: ds, _, ⟨v, vs', e, r, rs⟩, i, v', ev => by
    subst e
    cases i with
    | zero => simp at ev; subst ev; exact ⟨d, rfl, r⟩
    | succ i => simp at ev; obtain ⟨d', h1, h2⟩ := Reps.get rs ev; exact ⟨d', by simpa using h1, h2⟩
theorem Reps.at {h : Heap} {X : List Addr} : ∀ {ds : List D} {vs : List Value}, Reps h X ds vs → ∀ {i : Nat} {d : D}, ds[i]? = some d → ∃ v, vs[i]? = some v ∧ Rep h X d v
  | [], _, r, i, v, e => by simp at e
  | d :: ds, _, ⟨v, vs', e, r, rs⟩, i, d', ev => by
    subst e
    cases i with
    | zero => simp at ev; subst ev; exact ⟨v, rfl, r⟩
    | succ i => simp at ev; obtain ⟨v', h1, h2⟩ := Reps.at rs ev; exact ⟨v', by simpa using h1, h2⟩
theorem Reps.append {h : Heap} {X : List Addr} : ∀ {ds : List D} {vs : List Value}, Reps h X ds vs → ∀ {es : List D} {ws : List Value}, Reps h X es ws → Reps h X (ds ++ es) (vs ++ ws)
  | [], _, r, _, _, q => by rw [r]; exact q
  | d :: ds, _, ⟨v, vs', e, r, rs⟩, _, _, q => by subst e; exact ⟨v, _, rfl, r, Reps.append rs q⟩
theorem Reps.take {h : Heap} {X : List Addr} : ∀ {ds : List D} {vs : List Value}, Reps h X ds vs → ∀ n, Reps h X (ds.take n) (vs.take n)
  | [], _, r, n => by rw [r]; simp [Reps]
  | d :: ds, _, ⟨v, vs', e, r, rs⟩, 0 => by simp [Reps]
  | d :: ds, _, ⟨v, vs', e, r, rs⟩, n + 1 => by subst e; exact ⟨v, _, rfl, r, Reps.take rs n⟩
theorem Reps.drop {h : Heap} {X : List Addr} : ∀ {ds : List D} {vs : List Value}, Reps h X ds vs → ∀ n, Reps h X (ds.drop n) (vs.drop n)
  | [], _, r, n => by rw [r]; simp [Reps]
  | d :: ds, _, ⟨v, vs', e, r, rs⟩, 0 => by subst e; exact ⟨v, _, rfl, r, rs⟩
  | d :: ds, _, ⟨v, vs', e, r, rs⟩, n + 1 => by subst e; exact Reps.drop rs n
theorem Reps.one {h : Heap} {X : List Addr} {d : D} {v : Value} (r : Rep h X d v) : Reps h X [d] [v] := ⟨v, [], rfl, r, rfl⟩

/-- a variable's place: a datum, or a list that the frame alone holds -/
inductive Slot where
  | dat (d : D)
  | own (ds : List D)

noncomputable abbrev Store := Str → Option Slot
noncomputable def Store.set (σ : Store) (x : Str) (sl : Slot) : Store := fun y => if y = x then some sl else σ y

/-- the ground: the module's names -/
structure Base (B : Shared) (mg mb : Str → Option Value) : Prop where
  g : B.heap.Ns mainGlobals mg
  b : B.heap.Ns builtinsNs mb
  builtins : ∀ x : Str, x ≠ "__name__" → mb x = bootBuiltins x
  nolimit : B.heap.NoLimit
  told : NoneBooked B.heap

noncomputable def Holds (env : Env) (m cm : Str → Option Value) (x : Str) (v : Value) : Prop :=
  match env.kindOf x with
  | some .local => m x = some v
  | some .cell => (env.cells.lookup x).isSome = true ∧ cm x = some v
  | some .free => (env.cells.lookup x).isSome = true ∧ cm x = some v
  | _ => False

noncomputable def SlotRep (h : Heap) (O Hd : List Addr) (env : Env) : Slot → Value → Prop
  | .dat d, v => Rep h (O ++ Hd) d v
  | .own ds, v => ∃ a vs, v = .ref a ∧ a ∈ O ∧ a ≠ env.locals ∧ (∀ x c, env.cells.lookup x = some c → a ≠ c) ∧ h.PlainList a (List.toArray vs) ∧ Reps h (O ++ Hd) ds vs

structure Inv (B : Shared) (O Hd : List Addr) (env : Env) (σ : Store) (s : Shared) : Prop where
  same : ∃ h tk, s = { B with heap := h, toks := tk } ∧ 0 < tk
  base : ∀ b o, B.heap.get? b = some o → s.heap.get? b = some o ∧ b ∉ O ++ Hd
  live : ∀ a, a ∈ O ++ Hd → ∃ o, s.heap.get? a = some o
  disj : ∀ a, a ∈ O → a ∉ Hd
  kind : env.scope.kind = .function
  glob : env.globals = mainGlobals
  blt : env.builtins = builtinsNs
  loc : env.locals ∈ O
  cellIn : env.func.isSome = true → ∀ x c, env.cells.lookup x = some c → c ∈ O
  cellNe : ∀ x c, env.cells.lookup x = some c → c ≠ env.locals
  cellInj : ∀ x y c, env.cells.lookup x = some c → env.cells.lookup y = some c → x = y
  vars : ∃ m cm, s.heap.Ns env.locals m ∧ (∀ x c, env.cells.lookup x = some c → s.heap.IsCell c (cm x)) ∧
    ∀ x sl, σ x = some sl → ∃ v, Holds env m cm x v ∧ SlotRep s.heap O Hd env sl v
  one : ∀ x y ds es, σ x = some (.own ds) → σ y = some (.own es) → x = y

theorem SlotRep.keeps {h h' : Heap} {O Hd : List Addr} {env : Env} {sl : Slot} {v : Value} (r : SlotRep h O Hd env sl v) (hk : ∀ a o, h.get? a = some o → h'.get? a = some o) : SlotRep h' O Hd env sl v := by
  cases sl with
  | dat d => exact Rep.keeps r hk
  | own ds => obtain ⟨a, vs, e, h1, h2, h3, h4, h5⟩ := r; exact ⟨a, vs, e, h1, h2, h3, h4.at fun o e => hk _ o e, h5.keeps hk⟩

/-- nothing that stood is changed -/
structure Kp (s s' : Shared) : Prop where
  same : ∃ h' tk, s' = { s with heap := h', toks := tk } ∧ s.toks ≤ tk
  get : ∀ b o, s.heap.get? b = some o → s'.heap.get? b = some o
theorem Kp.refl (s : Shared) : Kp s s := ⟨⟨s.heap, s.toks, rfl, Nat.le_refl _⟩, fun _ _ e => e⟩
theorem Kp.trans {s s' s'' : Shared} (k : Kp s s') (k' : Kp s' s'') : Kp s s'' := by
  refine ⟨?_, fun b o e => k'.get b o (k.get b o e)⟩
  obtain ⟨h', tk', rfl, ht⟩ := k.same
  obtain ⟨h'', tk'', rfl, ht'⟩ := k'.same
  exact ⟨h'', tk'', rfl, Nat.le_trans ht ht'⟩
theorem Kp.tok (s : Shared) (t : Nat) (ht : s.toks ≤ t := by exact Nat.le_succ _) : Kp s { s with toks := t } := ⟨⟨s.heap, t, rfl, ht⟩, fun _ _ e => e⟩
theorem Kp.push (s : Shared) (o : Obj) : Kp s { s with heap := s.heap.push o } := ⟨⟨_, s.toks, rfl, Nat.le_refl _⟩, fun _ _ e => Heap.get?_push_of_some _ e⟩
theorem Kp.mk' {s : Shared} {h' : Heap} {tk : Nat} (hk : ∀ b o, s.heap.get? b = some o → h'.get? b = some o) (ht : s.toks ≤ tk := by omega) : Kp s { s with heap := h', toks := tk } := ⟨⟨h', tk, rfl, ht⟩, hk⟩

theorem Inv.keeps {B : Shared} {O Hd : List Addr} {env : Env} {σ : Store} {s s' : Shared} (I : Inv B O Hd env σ s) (k : Kp s s') : Inv B O Hd env σ s' := by
  obtain ⟨⟨h', tk', rfl, ht⟩, hk⟩ := k
  obtain ⟨h, tk, hs, h0⟩ := I.same
  obtain ⟨m, cm, hn, hc, hv⟩ := I.vars
  refine ⟨⟨h', tk', by rw [hs], by rw [hs] at ht; exact Nat.lt_of_lt_of_le h0 ht⟩, fun b o e => ⟨hk _ _ (I.base b o e).1, (I.base b o e).2⟩, fun a ha => ?_, I.disj, I.kind, I.glob, I.blt, I.loc, I.cellIn, I.cellNe, I.cellInj, ?_, I.one⟩
  · obtain ⟨o, ho⟩ := I.live a ha; exact ⟨o, hk _ _ ho⟩
  · exact ⟨m, cm, hn.keeps hk, fun x c e => (hc x c e).keeps hk, fun x sl e => by obtain ⟨v, h1, h2⟩ := hv x sl e; exact ⟨v, h1, h2.keeps hk⟩⟩

theorem Inv.pos {B : Shared} {O Hd : List Addr} {env : Env} {σ : Store} {s : Shared} (I : Inv B O Hd env σ s) : s.toks ≠ 0 := by
  obtain ⟨h, tk, e, h0⟩ := I.same; subst e; exact Nat.ne_of_gt h0

theorem rep_bool {h : Heap} {X : List Addr} {b : Bool} : Rep h X (.bool b) (.bool b) := by unfold Rep; rfl
theorem rep_int {h : Heap} {X : List Addr} {i : Int} {t : Tok} : Rep h X (.int i) (.int i t) := by unfold Rep; exact ⟨t, rfl⟩
theorem rep_flt {h : Heap} {X : List Addr} {x : UInt64} {t : Tok} (ht : t ≠ 0) : Rep h X (.flt x) (.float x t) := by unfold Rep; exact ⟨t, rfl, ht⟩
theorem rep_typ {h : Heap} {X : List Addr} {n : String} : Rep h X (.typ n) (.type n) := by unfold Rep; rfl
theorem rep_lst {h : Heap} {X : List Addr} {ds : List D} {a : Addr} {vs : List Value} (ha : a ∉ X) (hl : h.PlainList a vs.toArray) (r : Reps h X ds vs) : Rep h X (.lst ds) (.ref a) := by unfold Rep; exact ⟨a, vs, rfl, ha, hl, r⟩
theorem rep_tup {h : Heap} {X : List Addr} {ds : List D} {a : Addr} {vs : List Value} (ha : a ∉ X) (hl : PTup h a vs.toArray) (r : Reps h X ds vs) : Rep h X (.tup ds) (.ref a) := by unfold Rep; exact ⟨a, vs, rfl, ha, hl, r⟩
theorem Rep.bool_inv {h : Heap} {X : List Addr} {b : Bool} {v : Value} (r : Rep h X (.bool b) v) : v = .bool b := by unfold Rep at r; exact r
theorem Rep.int_inv {h : Heap} {X : List Addr} {i : Int} {v : Value} (r : Rep h X (.int i) v) : ∃ t, v = .int i t := by unfold Rep at r; exact r
theorem Rep.flt_inv {h : Heap} {X : List Addr} {x : UInt64} {v : Value} (r : Rep h X (.flt x) v) : ∃ t, v = .float x t ∧ t ≠ 0 := by unfold Rep at r; exact r
theorem Rep.typ_inv {h : Heap} {X : List Addr} {n : String} {v : Value} (r : Rep h X (.typ n) v) : v = .type n := by unfold Rep at r; exact r
theorem Rep.lst_inv {h : Heap} {X : List Addr} {ds : List D} {v : Value} (r : Rep h X (.lst ds) v) : ∃ a vs, v = .ref a ∧ a ∉ X ∧ h.PlainList a (List.toArray vs) ∧ Reps h X ds vs := by unfold Rep at r; exact r
theorem Rep.tup_inv {h : Heap} {X : List Addr} {ds : List D} {v : Value} (r : Rep h X (.tup ds) v) : ∃ a vs, v = .ref a ∧ a ∉ X ∧ PTup h a (List.toArray vs) ∧ Reps h X ds vs := by unfold Rep at r; exact r

noncomputable abbrev no : Value → Shared → Prop := fun _ _ => False

/-- the expression evaluates to a datum of which Q holds, and no object that stood is changed -/
noncomputable def WE (prog : Program) (w : World) (B : Shared) (A : Around) (env : Env) (σ : Store) (e : Expr) (Q : D → Prop) : Prop :=
  ∀ O Hd s, Inv B O Hd env σ s → wpAny (model prog w) A (eval e env) (fun v s' => Kp s s' ∧ ∃ d, Rep s'.heap (O ++ Hd) d v ∧ Q d) no s

/-- a test -/
noncomputable def WT (prog : Program) (w : World) (B : Shared) (A : Around) (env : Env) (σ : Store) (e : Expr) (Q : Bool → Prop) : Prop :=
  ∀ O Hd s, Inv B O Hd env σ s → wpAny (model prog w) A (isTrue e env (eval e env)) (fun b s' => Kp s s' ∧ Q b) no s

end Mine

end
section
open PySem PySem.W PySem.Calls PyProof.Rows
namespace Mine

structure Live (X : List Addr) (s : Shared) : Prop where
  at_ : ∀ a, a ∈ X → ∃ o, s.heap.get? a = some o
  pos : s.toks ≠ 0
theorem Live.keeps {X : List Addr} {s s' : Shared} (l : Live X s) (k : Kp s s') : Live X s' := ⟨fun a ha => by
  obtain ⟨o, ho⟩ := l.at_ a ha; exact ⟨o, k.get _ _ ho⟩, by
  obtain ⟨h, tk, e, ht⟩ := k.same; subst e; intro q; exact l.pos (Nat.le_zero.mp (q ▸ ht))⟩
theorem Inv.lives {B : Shared} {O Hd : List Addr} {env : Env} {σ : Store} {s : Shared} (I : Inv B O Hd env σ s) : Live (O ++ Hd) s := ⟨I.live, I.pos⟩
theorem Live.fresh {X : List Addr} {s : Shared} (l : Live X s) : s.heap.objs.size ∉ X := fun h => by
  obtain ⟨o, ho⟩ := l.at_ _ h; exact absurd (Heap.lt_size ho) (Nat.lt_irrefl _)

section
variable {prog : Program} {w : World} {B : Shared} {A : Around} {env : Env} {σ : Store}

/-- the state under a call: the ground, and what must not be met -/
structure Grd (B : Shared) (X : List Addr) (s : Shared) : Prop where
  same : ∃ h tk, s = { B with heap := h, toks := tk } ∧ 0 < tk
  base : ∀ b o, B.heap.get? b = some o → s.heap.get? b = some o ∧ b ∉ X
  live : Live X s
theorem Inv.grd {O Hd : List Addr} {s : Shared} (I : Inv B O Hd env σ s) : Grd B (O ++ Hd) s := ⟨I.same, I.base, I.lives⟩
noncomputable def BO (prog : Program) (w : World) (A : Around) (op : Operator) (a b : D) (Q : D → Prop) : Prop :=
  ∀ X s va vb, Live X s → Rep s.heap X a va → Rep s.heap X b vb → wpAny (model prog w) A (binaryOp op va vb) (fun v s' => Kp s s' ∧ ∃ d, Rep s'.heap X d v ∧ Q d) no s
noncomputable def CO (prog : Program) (w : World) (B : Shared) (A : Around) (op : CmpOp) (a b : D) (Q : Bool → Prop) : Prop :=
  ∀ X s va vb, Grd B X s → Rep s.heap X a va → Rep s.heap X b vb → wpAny (model prog w) A (compareOp op va vb) (fun v s' => Kp s s' ∧ ∃ c, v = .bool c ∧ Q c) no s
noncomputable def TO (prog : Program) (w : World) (A : Around) (a : D) (Q : Bool → Prop) : Prop :=
  ∀ X s va, Live X s → Rep s.heap X a va → wpAny (model prog w) A (truthy va) (fun c s' => Kp s s' ∧ Q c) no s
noncomputable def UO (prog : Program) (w : World) (A : Around) (op : UnaryOp) (a : D) (Q : D → Prop) : Prop :=
  ∀ X s va, Live X s → Rep s.heap X a va → wpAny (model prog w) A (unaryOp op va) (fun v s' => Kp s s' ∧ ∃ d, Rep s'.heap X d v ∧ Q d) no s

theorem WE.mono {e : Expr} {Q Q' : D → Prop} (h : WE prog w B A env σ e Q) (hq : ∀ d, Q d → Q' d) : WE prog w B A env σ e Q' := fun O Hd s I =>
  wpAny_mono (h O Hd s I) (fun v s' ⟨k, d, r, q⟩ => ⟨k, d, r, hq d q⟩) fun _ _ f => f
theorem WT.mono {e : Expr} {Q Q' : Bool → Prop} (h : WT prog w B A env σ e Q) (hq : ∀ d, Q d → Q' d) : WT prog w B A env σ e Q' := fun O Hd s I =>
  wpAny_mono (h O Hd s I) (fun v s' ⟨k, q⟩ => ⟨k, hq _ q⟩) fun _ _ f => f

theorem WE_int {i : Int} {k : Nat} {pos : Pos} {Q : D → Prop} (q : Q (.int i)) : WE prog w B A env σ (.Constant (.int i) k pos) Q := fun O Hd s I =>
  wpAny_Constant_int ⟨Kp.tok _ _, _, rep_int, q⟩
theorem WE_flt {x : UInt64} {k : Nat} {pos : Pos} {Q : D → Prop} (q : Q (.flt x)) : WE prog w B A env σ (.Constant (.float x) k pos) Q := fun O Hd s I =>
  (show wpAny (model prog w) A (mkFloat x) _ _ s from fun _ _ _ => ⟨Kp.tok _ _, _, rep_flt I.pos, q⟩)
theorem WE_bool {b : Bool} {k : Nat} {pos : Pos} {Q : D → Prop} (q : Q (.bool b)) : WE prog w B A env σ (.Constant (.bool b) k pos) Q := fun O Hd s I =>
  Constant_bool ⟨Kp.refl _, _, rep_bool, q⟩
theorem Inv.load {O Hd : List Addr} {s : Shared} {M : Model} (I : Inv B O Hd env σ s) {x : Str} {sl : Slot} (hx : σ x = some sl) (hn : (x == ("__classdict__" : Str)) = false) {Q : Value → Shared → Prop} {E : Value → Shared → Prop}
    (h : ∀ v, SlotRep s.heap O Hd env sl v → Q v s) : wpAny M A (loadName env x) Q E s := by
  obtain ⟨m, cm, ns, cs, vs⟩ := I.vars
  obtain ⟨v, hv, r⟩ := vs x sl hx
  unfold Holds at hv
  split at hv
  · rename_i hk
    exact wpAny_loadName_local I.kind hk ns hv (h v r)
  · rename_i hk
    obtain ⟨c, hc⟩ := Option.isSome_iff_exists.mp hv.1
    exact wpAny_loadName_cell I.kind hk hc (hv.2 ▸ cs x c hc) (h v r)
  · rename_i hk
    obtain ⟨c, hc⟩ := Option.isSome_iff_exists.mp hv.1
    exact wpAny_loadName_free I.kind hk hc (hv.2 ▸ cs x c hc) (h v r) hn
  · exact hv.elim

theorem WE_name {x : Str} {pos : Pos} {d : D} {Q : D → Prop} (hx : σ x = some (.dat d)) (q : Q d)
    (hd : (x == ("__debug__" : Str)) = false := by decide) (hn : (x == ("__classdict__" : Str)) = false := by decide) : WE prog w B A env σ (.Name x pos) Q := fun O Hd s I =>
  wpAny_Name (I.load hx hn fun v r => ⟨Kp.refl _, d, r, q⟩) hd

theorem WE_global {mg mb : Str → Option Value} (G : Base B mg mb) {x : Str} {pos : Pos} {v : Value} {d : D} {Q : D → Prop} (hx : env.kindOf x = some .globalImplicit) (hv : mg x = some v)
    (r : ∀ h X, Rep h X d v) (q : Q d) (hd : (x == ("__debug__" : Str)) = false := by decide) : WE prog w B A env σ (.Name x pos) Q := fun O Hd s I => by
  refine Name_function_global I.kind hx ?_ hd
  refine loadGlobal_global (mg := mg) ?_ hv ⟨Kp.refl _, d, r _ _, q⟩
  rw [I.glob]; exact G.g.keeps fun b o e => (I.base b o e).1

theorem load_builtin {mg mb : Str → Option Value} (G : Base B mg mb) {O Hd : List Addr} {s : Shared} (I : Inv B O Hd env σ s) {x : Str} {pos : Pos} {v : Value} {Q : Value → Shared → Prop} {E : Value → Shared → Prop} {M : Model}
    (hx : env.kindOf x = some .globalImplicit) (hm : mg x = none) (hb : bootBuiltins x = some v) (h : Q v s) (hn : x ≠ "__name__") (hd : (x == ("__debug__" : Str)) = false) : wpAny M A (eval (.Name x pos) env) Q E s := by
  refine Name_function_global I.kind hx ?_ hd
  refine loadGlobal_builtin (mg := mg) (mb := mb) ?_ hm ?_ ((G.builtins x hn).trans hb) h
  · rw [I.glob]; exact G.g.keeps fun b o e => (I.base b o e).1
  · rw [I.blt]; exact G.b.keeps fun b o e => (I.base b o e).1
theorem load_global {mg mb : Str → Option Value} (G : Base B mg mb) {O Hd : List Addr} {s : Shared} (I : Inv B O Hd env σ s) {x : Str} {pos : Pos} {v : Value} {Q : Value → Shared → Prop} {E : Value → Shared → Prop} {M : Model}
    (hx : env.kindOf x = some .globalImplicit) (hm : mg x = some v) (h : Q v s) (hd : (x == ("__debug__" : Str)) = false) : wpAny M A (eval (.Name x pos) env) Q E s := by
  refine Name_function_global I.kind hx ?_ hd
  refine loadGlobal_global (mg := mg) ?_ hm h
  rw [I.glob]; exact G.g.keeps fun b o e => (I.base b o e).1

theorem WE_type {mg mb : Str → Option Value} (G : Base B mg mb) {x : Str} {pos : Pos} {n : String} {Q : D → Prop} (hx : env.kindOf x = some .globalImplicit) (hm : mg x = none) (hb : bootBuiltins x = some (.type n))
    (q : Q (.typ n)) (hn : x ≠ "__name__" := by decide) (hd : (x == ("__debug__" : Str)) = false := by decide) : WE prog w B A env σ (.Name x pos) Q := fun O Hd s I =>
  load_builtin G I hx hm hb ⟨Kp.refl _, _, rep_typ, q⟩ hn hd

theorem WE_binop {l r : Expr} {op : Operator} {pos : Pos} {Q : D → Prop} (h : WE prog w B A env σ l (fun a => WE prog w B A env σ r (fun b => BO prog w A op a b Q))) : WE prog w B A env σ (.BinOp l op r pos) Q := fun O Hd s I => by
  refine wpAny_BinOp (wpAny_mono (h O Hd s I) (fun va s₁ ⟨k₁, a, ra, h₁⟩ => ?_) fun _ _ f => f.elim)
  refine wpAny_mono (h₁ O Hd s₁ (I.keeps k₁)) (fun vb s₂ ⟨k₂, b, rb, h₂⟩ => ?_) fun _ _ f => f.elim
  refine wpAny_mono (h₂ _ s₂ va vb (I.keeps (k₁.trans k₂)).lives (ra.keeps k₂.get) rb) (fun v s' ⟨k₃, d, rd, q⟩ => ⟨(k₁.trans k₂).trans k₃, d, rd, q⟩) fun _ _ f => f

theorem WE_unary {x : Expr} {op : UnaryOp} {pos : Pos} {Q : D → Prop} (h : WE prog w B A env σ x (fun a => UO prog w A op a Q)) : WE prog w B A env σ (.UnaryOp op x pos) Q := fun O Hd s I => by
  refine UnaryOp_ (wpAny_mono (h O Hd s I) (fun va s₁ ⟨k₁, a, ra, h₁⟩ => ?_) fun _ _ f => f.elim)
  exact wpAny_mono (h₁ _ s₁ va (I.keeps k₁).lives ra) (fun v s' ⟨k₃, d, rd, q⟩ => ⟨k₁.trans k₃, d, rd, q⟩) fun _ _ f => f

theorem WT_compare {l r : Expr} {op : CmpOp} {pos : Pos} {Q : Bool → Prop} (h : WE prog w B A env σ l (fun a => WE prog w B A env σ r (fun b => CO prog w B A op a b Q)))
    (hm : behindInMarks op r = false := by with_unfolding_all rfl) : WT prog w B A env σ (.Compare l [op] [r] pos) Q := fun O Hd s I => by
  refine wpAny_isTrue_Compare1 (wpAny_mono (h O Hd s I) (fun va s₁ ⟨k₁, a, ra, h₁⟩ => ?_) fun _ _ f => f.elim) hm
  refine wpAny_mono (h₁ O Hd s₁ (I.keeps k₁)) (fun vb s₂ ⟨k₂, b, rb, h₂⟩ => ?_) fun _ _ f => f.elim
  refine wpAny_mono (h₂ _ s₂ va vb (I.keeps (k₁.trans k₂)).grd (ra.keeps k₂.get) rb) (fun v s' ⟨k₃, c, e, q⟩ => ?_) fun _ _ f => f
  subst e; exact wpAny_truthy_bool ⟨(k₁.trans k₂).trans k₃, q⟩

theorem WT_not {x : Expr} {pos : Pos} {Q : Bool → Prop} (h : WT prog w B A env σ x (fun c => Q (!c))) : WT prog w B A env σ (.UnaryOp .Not x pos) Q := fun O Hd s I => isTrue_not (h O Hd s I)
theorem WT_and {x : Expr} {rest : List Expr} {pos : Pos} {Q : Bool → Prop} (h : WT prog w B A env σ x (fun c => if c = true then WT prog w B A env σ (.BoolOp .And rest pos) Q else Q false)) :
    WT prog w B A env σ (.BoolOp .And (x :: rest) pos) Q := fun O Hd s I => by
  refine isTrue_and (wpAny_mono (h O Hd s I) (fun c s₁ ⟨k₁, h₁⟩ => ?_) fun _ _ f => f)
  cases c with
  | false => exact ⟨k₁, h₁⟩
  | true =>
    simp only [if_true] at h₁ ⊢
    exact wpAny_mono (h₁ O Hd s₁ (I.keeps k₁)) (fun c s' ⟨k, q⟩ => ⟨k₁.trans k, q⟩) fun _ _ f => f
/-- any other test: its value's truth -/
theorem WT_plain {e : Expr} {Q : Bool → Prop} (h : WE prog w B A env σ e (fun a => TO prog w A a Q))
    (he : isTrue e env (eval e env) = (do let v ← eval e env; standAt e.pos; holding [v] (truthy v)) := by rfl) : WT prog w B A env σ e Q := fun O Hd s I => by
  refine isTrue_plain (wpAny_mono (h O Hd s I) (fun va s₁ ⟨k₁, a, ra, h₁⟩ => ?_) fun _ _ f => f.elim) he
  exact wpAny_mono (h₁ _ s₁ va (I.keeps k₁).lives ra) (fun c s' ⟨k, q⟩ => ⟨k₁.trans k, q⟩) fun _ _ f => f

end
end Mine

end
section
open PySem PySem.W PySem.Calls PyProof.Rows
namespace Mine

section
variable {prog : Program} {w : World} {B : Shared} {A : Around} {env : Env} {σ : Store}

-- ints
theorem BO_add_ii {a b : Int} {Q : D → Prop} (q : Q (.int (a + b))) : BO prog w A .Add (.int a) (.int b) Q := fun X s va vb l ra rb => by
  obtain ⟨t, rfl⟩ := ra.int_inv; obtain ⟨u, rfl⟩ := rb.int_inv
  exact PyProof.Rows.add_int ⟨Kp.tok _ _, _, rep_int, q⟩
theorem BO_sub_ii {a b : Int} {Q : D → Prop} (q : Q (.int (a - b))) : BO prog w A .Sub (.int a) (.int b) Q := fun X s va vb l ra rb => by
  obtain ⟨t, rfl⟩ := ra.int_inv; obtain ⟨u, rfl⟩ := rb.int_inv
  exact PyProof.Rows.sub_int ⟨Kp.tok _ _, _, rep_int, q⟩
theorem BO_mul_ii {a b : Int} {Q : D → Prop} (hm : IntMulOk a b) (q : Q (.int (a * b))) : BO prog w A .Mult (.int a) (.int b) Q := fun X s va vb l ra rb => by
  obtain ⟨t, rfl⟩ := ra.int_inv; obtain ⟨u, rfl⟩ := rb.int_inv
  exact PyProof.Rows.mul_int ⟨Kp.tok _ _, _, rep_int, q⟩ hm
theorem BO_mod_ii {a b : Int} {Q : D → Prop} (hb : b ≠ 0) (q : Q (.int (a.fmod b))) : BO prog w A .Mod (.int a) (.int b) Q := fun X s va vb l ra rb => by
  obtain ⟨t, rfl⟩ := ra.int_inv; obtain ⟨u, rfl⟩ := rb.int_inv
  exact PyProof.Rows.mod_int hb ⟨Kp.tok _ _, _, rep_int, q⟩
theorem BO_floordiv_ii {a b : Int} {Q : D → Prop} (hb : b ≠ 0) (hp : b.natAbs.log2 < 9000) (q : Q (.int (a.fdiv b))) : BO prog w A .FloorDiv (.int a) (.int b) Q := fun X s va vb l ra rb => by
  obtain ⟨t, rfl⟩ := ra.int_inv; obtain ⟨u, rfl⟩ := rb.int_inv
  exact AutoIntOps.floordiv_1 (by simpa using hb) (by rw [PyProof.noPylong_of_log2 hp]; simp) ⟨Kp.tok _ _, _, rep_int, q⟩
theorem BO_pow_ii {a b : Int} {Q : D → Prop} (hb : 0 ≤ b) (hsz : (Builtin.Int.intBits a : Int) * b ≤ 2 ^ 27) (q : Q (.int (a ^ b.toNat))) : BO prog w A .Pow (.int a) (.int b) Q := fun X s va vb l ra rb => by
  obtain ⟨t, rfl⟩ := ra.int_inv; obtain ⟨u, rfl⟩ := rb.int_inv
  exact PyProof.Rows.pow_int hb hsz ⟨Kp.tok _ _, _, rep_int, q⟩
/-- true division of ints -/
noncomputable def divI (a b : Int) : UInt64 := Float64.ofFrac (decide (a < 0) != decide (b < 0)) a.natAbs b.natAbs
theorem BO_div_ii {a b : Int} {Q : D → Prop} (hA : A.handled = none) (hfit : a.natAbs < 2 ^ 1023) (hb : b ≠ 0) (q : Q (.flt (divI a b))) : BO prog w A .Div (.int a) (.int b) Q := fun X s va vb l ra rb => by
  obtain ⟨t, rfl⟩ := ra.int_inv; obtain ⟨u, rfl⟩ := rb.int_inv
  exact PySem.Flt.div_ii_fits hA hfit (fun h => absurd h hb) (fun _ _ => ⟨Kp.tok _ _, _, rep_flt l.pos, q⟩)
-- floats
theorem BO_add_ff {a b : UInt64} {Q : D → Prop} (q : Q (.flt (Float64.add a b))) : BO prog w A .Add (.flt a) (.flt b) Q := fun X s va vb l ra rb => by
  obtain ⟨t, rfl, ht⟩ := ra.flt_inv; obtain ⟨u, rfl, hu⟩ := rb.flt_inv
  exact PyProof.Rows.add_float ⟨Kp.tok _ _, _, rep_flt l.pos, q⟩
theorem BO_sub_ff {a b : UInt64} {Q : D → Prop} (q : Q (.flt (Float64.sub a b))) : BO prog w A .Sub (.flt a) (.flt b) Q := fun X s va vb l ra rb => by
  obtain ⟨t, rfl, ht⟩ := ra.flt_inv; obtain ⟨u, rfl, hu⟩ := rb.flt_inv
  exact PyProof.Rows.sub_float ⟨Kp.tok _ _, _, rep_flt l.pos, q⟩
theorem BO_mul_ff {a b : UInt64} {Q : D → Prop} (q : Q (.flt (Float64.mul a b))) : BO prog w A .Mult (.flt a) (.flt b) Q := fun X s va vb l ra rb => by
  obtain ⟨t, rfl, ht⟩ := ra.flt_inv; obtain ⟨u, rfl, hu⟩ := rb.flt_inv
  exact PyProof.Rows.mul_float ⟨Kp.tok _ _, _, rep_flt l.pos, q⟩
theorem BO_div_ff {a b : UInt64} {Q : D → Prop} (hb : Float64.isZero b = false) (q : Q (.flt (Float64.div a b))) : BO prog w A .Div (.flt a) (.flt b) Q := fun X s va vb l ra rb => by
  obtain ⟨t, rfl, ht⟩ := ra.flt_inv; obtain ⟨u, rfl, hu⟩ := rb.flt_inv
  exact AutoFloatOps.truediv_1 (by simp [hb]) ⟨Kp.tok _ _, _, rep_flt l.pos, q⟩
theorem BO_mod_ff {a b : UInt64} {Q : D → Prop} (hb : Float64.isZero b = false) (q : Q (.flt (Float64.divmod a b).2)) : BO prog w A .Mod (.flt a) (.flt b) Q := fun X s va vb l ra rb => by
  obtain ⟨t, rfl, ht⟩ := ra.flt_inv; obtain ⟨u, rfl, hu⟩ := rb.flt_inv
  exact AutoFloatOps.mod_1 (by simp [hb]) ⟨Kp.tok _ _, _, rep_flt l.pos, q⟩
theorem BO_mul_if {a : Int} {b : UInt64} {Q : D → Prop} (hfit : a.natAbs < 2 ^ 1023) (q : Q (.flt (Float64.mul (Float64.ofInt a) b))) : BO prog w A .Mult (.int a) (.flt b) Q := fun X s va vb l ra rb => by
  obtain ⟨t, rfl⟩ := ra.int_inv; obtain ⟨u, rfl, hu⟩ := rb.flt_inv
  exact PyProof.Rows.mul_if_fits hfit ⟨Kp.tok _ _, _, rep_flt l.pos, q⟩
theorem BO_div_fi {a : UInt64} {b : Int} {Q : D → Prop} (hfit : b.natAbs < 2 ^ 1023) (hb : Float64.isZero (Float64.ofInt b) = false) (q : Q (.flt (Float64.div a (Float64.ofInt b)))) : BO prog w A .Div (.flt a) (.int b) Q := fun X s va vb l ra rb => by
  obtain ⟨t, rfl, ht⟩ := ra.flt_inv; obtain ⟨u, rfl⟩ := rb.int_inv
  exact AutoFloatOps.truediv_fi_2 (Float64.ofInt_fits hfit) (by simp [hb]) ⟨Kp.tok _ _, _, rep_flt l.pos, q⟩
theorem UO_neg_i {a : Int} {Q : D → Prop} (q : Q (.int (-a))) : UO prog w A .USub (.int a) Q := fun X s va l ra => by
  obtain ⟨t, rfl⟩ := ra.int_inv
  exact PyProof.Rows.neg_int ⟨Kp.tok _ _, _, rep_int, q⟩

-- comparisons
theorem CO_gt_ii {a b : Int} {Q : Bool → Prop} (q : Q (decide (b < a))) : CO prog w B A .Gt (.int a) (.int b) Q := fun X s va vb l ra rb => by
  obtain ⟨t, rfl⟩ := ra.int_inv; obtain ⟨u, rfl⟩ := rb.int_inv
  exact PyProof.Rows.gt_int ⟨Kp.refl _, _, rfl, q⟩
theorem CO_ne_ii {a b : Int} {Q : Bool → Prop} (q : Q (a != b)) : CO prog w B A .NotEq (.int a) (.int b) Q := fun X s va vb l ra rb => by
  obtain ⟨t, rfl⟩ := ra.int_inv; obtain ⟨u, rfl⟩ := rb.int_inv
  exact PyProof.Rows.ne_int ⟨Kp.refl _, _, rfl, q⟩
theorem CO_lt_ff {a b : UInt64} {Q : Bool → Prop} (q : Q (Float64.cmp a b == some .lt)) : CO prog w B A .Lt (.flt a) (.flt b) Q := fun X s va vb l ra rb => by
  obtain ⟨t, rfl, ht⟩ := ra.flt_inv; obtain ⟨u, rfl, hu⟩ := rb.flt_inv
  exact AutoFloatOps.lt_0 ⟨Kp.refl _, _, rfl, q⟩
theorem CO_le_ff {a b : UInt64} {Q : Bool → Prop} (q : Q (Float64.cmp a b == some .lt || Float64.cmp a b == some .eq)) : CO prog w B A .LtE (.flt a) (.flt b) Q := fun X s va vb l ra rb => by
  obtain ⟨t, rfl, ht⟩ := ra.flt_inv; obtain ⟨u, rfl, hu⟩ := rb.flt_inv
  exact AutoFloatOps.le_0 ⟨Kp.refl _, _, rfl, q⟩
theorem CO_eq_ff {a b : UInt64} {Q : Bool → Prop} (q : Q (Float64.cmp a b == some .eq)) : CO prog w B A .Eq (.flt a) (.flt b) Q := fun X s va vb l ra rb => by
  obtain ⟨t, rfl, ht⟩ := ra.flt_inv; obtain ⟨u, rfl, hu⟩ := rb.flt_inv
  exact AutoFloatOps.eq_0 ⟨Kp.refl _, _, rfl, q⟩
theorem TO_bool {b : Bool} {Q : Bool → Prop} (q : Q b) : TO prog w A (.bool b) Q := fun X s va l ra => by
  cases ra.bool_inv
  exact wpAny_truthy_bool ⟨Kp.refl _, q⟩
theorem rep_new_list {s : Shared} {X : List Addr} {ds : List D} {vs : List Value} (l : Live X s) (r : Reps s.heap X ds vs) :
    Rep (s.heap.push { cls := .type "list", data := .seq vs.toArray }) X (.lst ds) (.ref s.heap.objs.size) :=
  rep_lst l.fresh ⟨0, Heap.get?_push_size _ rfl⟩ (r.keeps fun _ _ e => Heap.get?_push_of_some _ e)
theorem rep_new_tuple {s : Shared} {X : List Addr} {ds : List D} {vs : List Value} (l : Live X s) (r : Reps s.heap X ds vs) :
    Rep (s.heap.push { cls := .type "tuple", data := .seq vs.toArray }) X (.tup ds) (.ref s.heap.objs.size) :=
  rep_tup l.fresh ⟨0, Heap.get?_push_size _ rfl⟩ (r.keeps fun _ _ e => Heap.get?_push_of_some _ e)

theorem BO_add_ll {ds es : List D} {Q : D → Prop} (hsz : ds.length + es.length ≤ 2 ^ 24) (q : Q (.lst (ds ++ es))) : BO prog w A .Add (.lst ds) (.lst es) Q := fun X s va vb l ra rb => by
  obtain ⟨a, vs, rfl, ha, hl, hr⟩ := ra.lst_inv; obtain ⟨b, ws, rfl, hb, hl', hr'⟩ := rb.lst_inv
  obtain ⟨n, ho⟩ := hl; obtain ⟨n', ho'⟩ := hl'
  refine P.add_list ho ho' ?_ (by simp [hr.length, hr'.length, sizeLine]; exact hsz)
  have e : vs.toArray ++ ws.toArray = (vs ++ ws).toArray := by simp
  rw [e]
  exact ⟨Kp.push _ _, _, rep_new_list l (hr.append hr'), q⟩
end
end Mine

end
section
open PySem PySem.W PySem.Calls PyProof.Rows
namespace Mine

section
variable {prog : Program} {w : World} {B : Shared} {A : Around} {env : Env} {σ : Store}

/-- expressions in order -/
noncomputable def WEs (prog : Program) (w : World) (B : Shared) (A : Around) (env : Env) (σ : Store) : List Expr → (List D → Prop) → Prop
  | [], Q => Q []
  | e :: rest, Q => WE prog w B A env σ e (fun d => WEs prog w B A env σ rest (fun ds => Q (d :: ds)))

noncomputable def noStar : List Expr → Bool
  | [] => true
  | .Starred _ _ :: _ => false
  | _ :: rest => noStar rest

theorem starEach_plain {e : Expr} {rest : List Expr} (h : noStar (e :: rest) = true) : starEach (e :: rest) env = (false, eval e env) :: starEach rest env ∧ noStar rest = true := by
  cases e <;> first | (simp [noStar] at h; done) | exact ⟨rfl, by simpa [noStar] using h⟩

theorem WEs.wp {O Hd : List Addr} {pos : Pos} : ∀ (es : List Expr) (Q : List D → Prop) (s : Shared), noStar es = true → WEs prog w B A env σ es Q → Inv B O Hd env σ s →
    wpAny (model prog w) A (spliced (backTo pos (starEach es env))) (fun vs s' => Kp s s' ∧ ∃ ds, Reps s'.heap (O ++ Hd) ds vs ∧ Q ds) no s
  | [], Q, s, _, h, I => spliced_nil ⟨Kp.refl _, [], rfl, h⟩
  | e :: rest, Q, s, hn, h, I => by
    obtain ⟨he, hr⟩ := starEach_plain (env := env) hn
    rw [he]
    show wpAny _ _ (spliced ((false, eval e env) :: backTo pos (starEach rest env))) _ _ s
    refine spliced_cons (wpAny_mono (h O Hd s I) (fun v s₁ ⟨k₁, d, r, h₁⟩ => ?_) fun _ _ f => f)
    refine wpAny_mono (WEs.wp rest _ s₁ hr h₁ (I.keeps k₁)) (fun vs s₂ ⟨k₂, ds, rs, q⟩ => ?_) fun _ _ f => f
    exact ⟨k₁.trans k₂, d :: ds, ⟨v, vs, rfl, r.keeps k₂.get, rs⟩, q⟩

theorem WEs.any {pos : Pos} : ∀ (es : List Expr), noStar es = true → (backTo pos (starEach es env)).any (·.1) = false
  | [], _ => rfl
  | e :: rest, hn => by
    obtain ⟨he, hr⟩ := starEach_plain (env := env) hn
    rw [he]
    show (false || (backTo pos (starEach rest env)).any (·.1)) = false
    rw [WEs.any rest hr]; rfl

theorem WE_list {es : List Expr} {pos : Pos} {Q : D → Prop} (h : WEs prog w B A env σ es (fun ds => ds.length ≤ 2 ^ 24 ∧ Q (.lst ds))) (hn : noStar es = true := by rfl) : WE prog w B A env σ (.List es pos) Q := fun O Hd s I => by
  refine List_ (wpAny_mono (WEs.wp es _ s hn h I) (fun vs s₁ ⟨k₁, ds, rs, hsz, q⟩ => ?_) fun _ _ f => f)
  exact wpAny_newObj_type ⟨k₁.trans (Kp.push _ _), _, rep_new_list (I.keeps k₁).lives rs, q⟩ (by show vs.toArray.size ≤ sizeLine; rw [List.size_toArray, rs.length]; exact hsz)
theorem WE_tuple {es : List Expr} {n : Nat} {pos : Pos} {Q : D → Prop} (h : WEs prog w B A env σ es (fun ds => ds.length ≤ 2 ^ 24 ∧ Q (.tup ds))) (hn : noStar es = true := by rfl) : WE prog w B A env σ (.Tuple es n pos) Q := fun O Hd s I => by
  refine Tuple_ (wpAny_mono (WEs.wp es _ s hn h I) (fun vs s₁ ⟨k₁, ds, rs, hsz, q⟩ => ?_) fun _ _ f => f)
  exact wpAny_newObj_type ⟨k₁.trans (Kp.push _ _), _, rep_new_tuple (I.keeps k₁).lives rs, q⟩ (by show vs.toArray.size ≤ sizeLine; rw [List.size_toArray, rs.length]; exact hsz)

/-- an item at a place -/
noncomputable def IO (prog : Program) (w : World) (A : Around) (a b : D) (Q : D → Prop) : Prop :=
  ∀ X s va vb, Live X s → Rep s.heap X a va → Rep s.heap X b vb → ∃ T id, s.TypeIs va T ∧ typeLookup (.type T) "__getitem__" = pure (some (.builtin id)) ∧
    wpAny (model prog w) A (getItem va vb) (fun v s' => Kp s s' ∧ ∃ d, Rep s'.heap X d v ∧ Q d) no s

theorem WE_item {value slice : Expr} {pos : Pos} {Q : D → Prop} (h : WE prog w B A env σ value (fun a => WE prog w B A env σ slice (fun b => IO prog w A a b Q)))
    (hs : ∀ o i, subscripted slice false o i = operate [o, i] (getItem o i) := by intro _ _; with_unfolding_all rfl) : WE prog w B A env σ (.Subscript value slice pos) Q := fun O Hd s I => by
  refine Subscript_ (wpAny_mono (h O Hd s I) (fun va s₁ ⟨k₁, a, ra, h₁⟩ => ?_) fun _ _ f => f.elim)
  refine wpAny_mono (h₁ O Hd s₁ (I.keeps k₁)) (fun vb s₂ ⟨k₂, b, rb, h₂⟩ => ?_) fun _ _ f => f.elim
  obtain ⟨T, id, hT, hl, hg⟩ := h₂ _ s₂ va vb (I.keeps (k₁.trans k₂)).lives (ra.keeps k₂.get) rb
  exact tail_any hT hl (wpAny_mono hg (fun v s' ⟨k₃, d, rd, q⟩ => ⟨(k₁.trans k₂).trans k₃, d, rd, q⟩) fun _ _ f => f) (hs va vb)

theorem isTup_getitem_lookup : typeLookup (.type "tuple") "__getitem__" = pure (some (.builtin "tuple.__getitem__")) := F.slot_tuple_getitem.lookup
theorem IO_li {ds : List D} {i : Int} {d : D} {Q : D → Prop} (h0 : 0 ≤ i) (hi : ds[i.toNat]? = some d) (hfit : i < 2 ^ 63) (q : Q d) : IO prog w A (.lst ds) (.int i) Q := fun X s va vb l ra rb => by
  obtain ⟨a, vs, rfl, ha, hl, hr⟩ := ra.lst_inv; obtain ⟨u, rfl⟩ := rb.int_inv
  obtain ⟨v, hv, rv⟩ := hr.at hi
  exact ⟨"list", _, hl.isList.typeIs, list_getitem_lookup, wpAny_getItem_list hl.isList h0 hfit (by simpa using hv) ⟨Kp.refl _, d, rv, q⟩⟩
theorem IO_ti {ds : List D} {i : Int} {d : D} {Q : D → Prop} (h0 : 0 ≤ i) (hi : ds[i.toNat]? = some d) (hfit : i < 2 ^ 63) (q : Q d) : IO prog w A (.tup ds) (.int i) Q := fun X s va vb l ra rb => by
  obtain ⟨a, vs, rfl, ha, hl, hr⟩ := ra.tup_inv; obtain ⟨u, rfl⟩ := rb.int_inv
  obtain ⟨v, hv, rv⟩ := hr.at hi
  obtain ⟨n, ho⟩ := id hl
  have hlt : i.toNat < vs.length := by
    rcases Nat.lt_or_ge i.toNat vs.length with h | h
    · exact h
    · rw [List.getElem?_eq_none h] at hv; cases hv
  refine ⟨"tuple", _, hl.isTuple.typeIs, isTup_getitem_lookup, P.getItem_tuple (k := i.toNat) ho (by omega) hfit ?_ (by simpa using hv) ⟨Kp.refl _, d, rv, q⟩⟩
  simp [seqIndex?]; omega

/-- a bound of a cut -/
noncomputable def WP (prog : Program) (w : World) (B : Shared) (A : Around) (env : Env) (σ : Store) : Option Expr → (Option Int → Prop) → Prop
  | none, Q => Q none
  | some e, Q => WE prog w B A env σ e (fun d => ∃ i, d = .int i ∧ Q (some i))

theorem WP.wp {O Hd : List Addr} {s : Shared} {e : Option Expr} {Q : Option Int → Prop} (h : WP prog w B A env σ e Q) (I : Inv B O Hd env σ s) :
    wpAny (model prog w) A (valueOrNone (evalOpt e env)) (fun v s' => Kp s s' ∧ ∃ i, IsPart v i ∧ Q i) no s := by
  cases e with
  | none => exact wpAny_pure ⟨Kp.refl _, none, .none, h⟩
  | some e =>
    refine wpAny_mono (h O Hd s I) (fun v s' ⟨k, d, r, i, e, q⟩ => ?_) fun _ _ f => f
    subst e
    obtain ⟨t, rfl⟩ := r.int_inv
    exact ⟨k, some i, .int _ _, q⟩

noncomputable def cut {α : Type} (xs : List α) (lo hi : Option Int) : List α :=
  (xs.drop (lo.elim 0 (clipAt xs.length))).take (hi.elim xs.length (clipAt xs.length) - lo.elim 0 (clipAt xs.length))

theorem WE_cut {value : Expr} {lo hi : Option Expr} {p pos : Pos} {Q : D → Prop}
    (h : WE prog w B A env σ value (fun a => WP prog w B A env σ lo (fun l => WP prog w B A env σ hi (fun u => ∃ ds, a = .lst ds ∧ ds.length ≤ 2 ^ 24 ∧ Q (.lst (cut ds l u)))))) :
    WE prog w B A env σ (.Subscript value (.Slice lo hi none p) pos) Q := fun O Hd s I => by
  refine Subscript_ (wpAny_mono (h O Hd s I) (fun va s₁ ⟨k₁, a, ra, h₁⟩ => ?_) fun _ _ f => f.elim)
  have I₁ := I.keeps k₁
  show wpAny _ _ (do
    let l ← valueOrNone (evalOpt lo env)
    let u ← holding [l] (valueOrNone (evalOpt hi env))
    let s ← holding [l, u] (valueOrNone (evalOpt none env))
    newFields "slice" [l, u, s]) _ _ s₁
  refine wpAny_bind (wpAny_mono (WP.wp h₁ I₁) (fun vl s₂ ⟨k₂, li, pl, h₂⟩ => ?_) fun _ _ f => f.elim)
  have I₂ := I₁.keeps k₂
  refine wpAny_bind (wpAny_holding (wpAny_mono (WP.wp h₂ I₂) (fun vu s₃ ⟨k₃, ui, pu, ds, hd, hsz, q⟩ => ?_) fun _ _ f => f.elim))
  have I₃ := I₂.keeps k₃
  subst hd
  refine wpAny_bind (wpAny_holding (wpAny_pure ?_))
  refine wpAny_newObj_type (T := "slice") (data := .fields #[vl, vu, .none]) ?_ (by simp [sizeOk, sizeLine])
  obtain ⟨a, vs, rfl, ha, hl, hr⟩ := (ra.keeps (k₂.trans k₃).get).lst_inv
  have hl' := hl.at (h' := s₃.heap.push { cls := .type "slice", data := .fields #[vl, vu, .none] }) fun o e => Heap.get?_push_of_some _ e
  refine tail_any (T := "list") (ops := [.ref s₃.heap.objs.size, .ref a]) (Heap.IsList.typeIs (s := { s₃ with heap := s₃.heap.push { cls := .type "slice", data := .fields #[vl, vu, .none] } }) hl'.isList) list_getitem_lookup
    (wpAny_getItem_list_slice (st := none) hl'.isList (Heap.IsSliceOf.new ..) pl pu .none (by simp) ?_ (by simp [sizeLine, hr.length]; exact hsz)) (by with_unfolding_all rfl)
  have L4 : Live (O ++ Hd) { s₃ with heap := s₃.heap.push { cls := .type "slice", data := .fields #[vl, vu, .none] } } := I₃.lives.keeps (Kp.push _ _)
  have e : slicePick vs.toArray li ui none = (cut vs li ui).toArray := by rw [slicePick_plain]; simp [cut]
  rw [e]
  have r' : Reps s₃.heap (O ++ Hd) (cut ds li ui) (cut vs li ui) := by
    unfold cut; rw [hr.length]; exact (hr.drop _).take _
  refine ⟨((k₁.trans k₂).trans k₃).trans ((Kp.push _ _).trans (Kp.push _ _)), _, ?_, q⟩
  exact rep_new_list (s := { s₃ with heap := s₃.heap.push { cls := .type "slice", data := .fields #[vl, vu, .none] } }) L4 (r'.keeps fun _ _ e => Heap.get?_push_of_some _ e)

/-- a call of a value with plain arguments -/
noncomputable def WC (prog : Program) (w : World) (B : Shared) (A : Around) (f : Value) (args : List D) (Q : D → Prop) : Prop :=
  ∀ X s vals, Grd B X s → Reps s.heap X args vals → wpAny (model prog w) A (call f vals) (fun v s' => Kp s s' ∧ ∃ d, Rep s'.heap X d v ∧ Q d) no s

theorem WC.mono {f : Value} {args : List D} {Q Q' : D → Prop} (h : WC prog w B A f args Q) (hq : ∀ d, Q d → Q' d) : WC prog w B A f args Q' := fun X s vals g r =>
  wpAny_mono (h X s vals g r) (fun v s' ⟨k, d, r, q⟩ => ⟨k, d, r, hq d q⟩) fun _ _ f => f

theorem WE_call_builtin {mg mb : Str → Option Value} (G : Base B mg mb) {x : Str} {p pos : Pos} {id : String} {e : Expr} {args : List Expr} {Q : D → Prop}
    (hx : env.kindOf x = some .globalImplicit) (hm : mg x = none) (hb : bootBuiltins x = some (.builtin id))
    (h : WEs prog w B A env σ (e :: args) (fun ds => WC prog w B A (.builtin id) ds Q))
    (hn : x ≠ "__name__" := by decide) (hd : (x == ("__debug__" : Str)) = false := by decide) (hs : noStar (e :: args) = true := by rfl) : WE prog w B A env σ (.Call (.Name x p) (e :: args) [] pos) Q := fun O Hd s I => by
  refine Call_Name rfl (load_builtin G I hx hm hb ?_ hn hd)
  refine callWith_builtin1 (wpAny_mono (WEs.wp (e :: args) _ s hs h I) (fun vs s₁ ⟨k₁, ds, rs, h₁⟩ => ?_) fun _ _ f => f.elim) (starEach_plain hs).1 (WEs.any args (starEach_plain (env := env) hs).2)
  exact wpAny_mono (h₁ _ s₁ vs (I.keeps k₁).grd rs) (fun v s' ⟨k, d, r, q⟩ => ⟨k₁.trans k, d, r, q⟩) fun _ _ f => f

theorem WE_call_type {mg mb : Str → Option Value} (G : Base B mg mb) {x : Str} {p pos : Pos} {T : String} {e : Expr} {args : List Expr} {Q : D → Prop}
    (hx : env.kindOf x = some .globalImplicit) (hm : mg x = none) (hb : bootBuiltins x = some (.type T))
    (h : WEs prog w B A env σ (e :: args) (fun ds => WC prog w B A (.type T) ds Q))
    (hn : x ≠ "__name__" := by decide) (hd : (x == ("__debug__" : Str)) = false := by decide) (hs : noStar (e :: args) = true := by rfl) : WE prog w B A env σ (.Call (.Name x p) (e :: args) [] pos) Q := fun O Hd s I => by
  refine Call_Name rfl (load_builtin G I hx hm hb ?_ hn hd)
  refine callWith_type1 (wpAny_mono (WEs.wp (e :: args) _ s hs h I) (fun vs s₁ ⟨k₁, ds, rs, h₁⟩ => ?_) fun _ _ f => f.elim) (starEach_plain hs).1 (WEs.any args (starEach_plain (env := env) hs).2)
  exact wpAny_mono (h₁ _ s₁ vs (I.keeps k₁).grd rs) (fun v s' ⟨k, d, r, q⟩ => ⟨k₁.trans k, d, r, q⟩) fun _ _ f => f

/-- a def of the module -/
structure FnAt (B : Shared) (mg : Str → Option Value) (x : Str) (f : Addr) (fd : FuncData) : Prop where
  at_ : mg x = some (.ref f)
  obj : ∃ o, B.heap.get? f = some o ∧ o.data = .func fd
  code : B.heap.CodeRec fd.code fd.qualname

theorem WE_call_def {mg mb : Str → Option Value} (G : Base B mg mb) {x : Str} {p pos : Pos} {f : Addr} {fd : FuncData} (H : FnAt B mg x f fd) {e : Expr} {args : List Expr} {Q : D → Prop}
    (hx : env.kindOf x = some .globalImplicit) (h : WEs prog w B A env σ (e :: args) (fun ds => WC prog w B A (.ref f) ds Q))
    (hd : (x == ("__debug__" : Str)) = false := by decide) (hs : noStar (e :: args) = true := by rfl) : WE prog w B A env σ (.Call (.Name x p) (e :: args) [] pos) Q := fun O Hd s I => by
  refine Call_Name rfl (load_global G I hx H.at_ ?_ hd)
  obtain ⟨o, ho, hdat⟩ := H.obj
  refine callWith_def hdat (wpAny_mono (WEs.wp (e :: args) _ s hs h I) (fun vs s₁ ⟨k₁, ds, rs, h₁⟩ => ?_) fun _ _ f => f.elim) (starEach_plain hs).1
  exact ⟨((I.keeps k₁).base _ _ ho).1, wpAny_mono (h₁ _ s₁ vs (I.keeps k₁).grd rs) (fun v s' ⟨k, d, r, q⟩ => ⟨k₁.trans k, d, r, q⟩) fun _ _ f => f⟩

end
end Mine

end
section
open PySem PySem.W PySem.Calls PyProof.Rows
namespace Mine

/-- an iterator at I that will hand out ds; it came behind s₀ -/
structure It (prog : Program) (w : World) (A : Around) (s₀ : Shared) (X : List Addr) (I : Addr) (ds : List D) (s : Shared) : Prop where
  walk : ∃ fp P St, Walks prog w A I fp [I] ds.length P St ∧ St 0 s.heap ∧ (∀ b, b ∈ fp → b ∉ X) ∧ (∀ b, b ∈ fp → ∃ o, s.heap.get? b = some o) ∧ (∀ i h, St i h → ∃ o, h.get? I = some o) ∧
    (∀ i v d, P i v → ds[i]? = some d → Rep s.heap (I :: X) d v) ∧
    (∀ i (s : Shared) v target (Q : Unit → Shared → Prop) (E : Value → Shared → Prop), St i s.heap → Q () s → wpAny (model prog w) A (letOwnedTupleGo target (.ref I) v) Q E s)
  fresh : s₀.heap.get? I = none

section
variable {prog : Program} {w : World} {B : Shared} {A : Around} {env : Env} {σ : Store}

theorem letOwned_ref {s : Shared} {I : Addr} {cls : String} {l v : Value} {vs : List Value} {target : Expr} {Q : Unit → Shared → Prop} {E : Value → Shared → Prop}
    (ho : ∃ o, s.heap.get? I = some o ∧ o.cls = .type cls ∧ o.data = .fields (l :: vs).toArray) (hl : ∀ a : Addr, l ≠ rawInt a ∨ ["enumerate", "zip", "dict_itemiterator", "dict_reverseitemiterator", "odict_iterator", "itertools.zip_longest", "itertools.pairwise"].contains cls = false) (h : Q () s) : wpAny (model prog w) A (letOwnedTupleGo target (.ref I) v) Q E s := by
  unfold letOwnedTupleGo
  split
  all_goals first
    | exact wpAny_pure h
    | skip
  all_goals
    cases v <;> try exact wpAny_pure h
  all_goals
    rename_i a
    obtain ⟨o, ho, hc, hd⟩ := ho
    refine wpAny_bind (wpAny_load ho ?_)
    rw [hc, hd]
    show wpAny _ A (if (["enumerate", "zip", "dict_itemiterator", "dict_reverseitemiterator", "odict_iterator", "itertools.zip_longest", "itertools.pairwise"].contains cls &&
        ((l :: vs).toArray : Array Value)[0]? == some (rawInt a)) = true then _ else _) Q E s
    rw [if_neg]
    · exact wpAny_pure h
    · intro hh
      rw [Bool.and_eq_true] at hh
      rcases hl a with h1 | h1
      · have := hh.2
        simp at this
        exact h1 this
      · rw [h1] at hh; exact absurd hh.1 (by decide)

theorem iter_lst {X : List Addr} {s : Shared} {ds : List D} {v : Value} (hA : A.handled = none) (l : Live X s) (r : Rep s.heap X (.lst ds) v) :
    wpAny (model prog w) A (pyIter v) (fun it s' => Kp s s' ∧ ∃ I, it = .ref I ∧ It prog w A s X I ds s') no s := by
  obtain ⟨a, vs, rfl, ha, hl, hr⟩ := r.lst_inv
  have hlen := hr.length
  obtain ⟨n, ho⟩ := id hl
  have hne : a ≠ s.heap.objs.size := Nat.ne_of_lt (Heap.lt_size ho)
  refine wpAny_pyIter_list hl.isList ?_
  have W := Walks.list (prog := prog) (w := w) hA s.heap.objs.size a hne vs.toArray
  rw [show vs.toArray.size = ds.length by rw [List.size_toArray]; exact hlen] at W
  refine ⟨Kp.push _ _, _, rfl, ⟨[s.heap.objs.size, a], (fun i v => vs.toArray[i]? = some v), (fun i h => h.IsListIter s.heap.objs.size a i ∧ h.IsList a vs.toArray), W,
    ⟨⟨_, Heap.get?_push_size _ rfl, rfl, rfl⟩, hl.isList.push _⟩, ?_, ?_, ?_, ?_, ?_⟩, ?_⟩
  · intro b hb
    simp at hb
    rcases hb with rfl | rfl
    · exact l.fresh
    · exact ha
  · intro b hb
    simp at hb
    rcases hb with rfl | rfl
    · exact ⟨_, Heap.get?_push_size _ rfl⟩
    · exact ⟨_, Heap.get?_push_of_some _ ho⟩
  · rintro i h ⟨⟨o, h1, _⟩, _⟩
    exact ⟨o, h1⟩
  · intro i v d hv hd
    obtain ⟨d', h1, h2⟩ := hr.get (i := i) (v := v) (by simpa using hv)
    rw [h1] at hd; cases hd
    exact h2.mono fun b o hb e => ⟨Heap.get?_push_of_some _ e, fun hm => by
      rcases List.mem_cons.mp hm with q | q
      · subst q; exact absurd (Heap.lt_size e) (Nat.lt_irrefl _)
      · exact hb q⟩
  · rintro i s' v target Q E ⟨⟨o, h1, h2, h3⟩, _⟩ hq
    exact letOwned_ref (cls := "list_iterator") ⟨o, h1, h2, h3⟩ (fun _ => .inr (by decide)) hq
  · cases e : s.heap.get? s.heap.objs.size with
    | none => rfl
    | some o => exact absurd (Heap.lt_size e) (Nat.lt_irrefl _)

theorem iter_tup {X : List Addr} {s : Shared} {ds : List D} {v : Value} (hA : A.handled = none) (l : Live X s) (r : Rep s.heap X (.tup ds) v) :
    wpAny (model prog w) A (pyIter v) (fun it s' => Kp s s' ∧ ∃ I, it = .ref I ∧ It prog w A s X I ds s') no s := by
  obtain ⟨a, vs, rfl, ha, hl, hr⟩ := r.tup_inv
  have hlen := hr.length
  obtain ⟨n, ho⟩ := id hl
  have hne : a ≠ s.heap.objs.size := Nat.ne_of_lt (Heap.lt_size ho)
  refine wpAny_pyIter_tuple hl.isTuple ?_
  have W := Walks.tuple (prog := prog) (w := w) hA s.heap.objs.size a hne vs.toArray
  rw [show vs.toArray.size = ds.length by rw [List.size_toArray]; exact hlen] at W
  refine ⟨Kp.push _ _, _, rfl, ⟨[s.heap.objs.size, a], (fun i v => vs.toArray[i]? = some v), (fun i h => h.IsTupleIter s.heap.objs.size a i ∧ h.IsTuple a vs.toArray), W,
    ⟨⟨_, Heap.get?_push_size _ rfl, rfl, rfl⟩, hl.isTuple.push _⟩, ?_, ?_, ?_, ?_, ?_⟩, ?_⟩
  · intro b hb
    simp at hb
    rcases hb with rfl | rfl
    · exact l.fresh
    · exact ha
  · intro b hb
    simp at hb
    rcases hb with rfl | rfl
    · exact ⟨_, Heap.get?_push_size _ rfl⟩
    · exact ⟨_, Heap.get?_push_of_some _ ho⟩
  · rintro i h ⟨⟨o, h1, _⟩, _⟩
    exact ⟨o, h1⟩
  · intro i v d hv hd
    obtain ⟨d', h1, h2⟩ := hr.get (i := i) (v := v) (by simpa using hv)
    rw [h1] at hd; cases hd
    exact h2.mono fun b o hb e => ⟨Heap.get?_push_of_some _ e, fun hm => by
      rcases List.mem_cons.mp hm with q | q
      · subst q; exact absurd (Heap.lt_size e) (Nat.lt_irrefl _)
      · exact hb q⟩
  · rintro i s' v target Q E ⟨⟨o, h1, h2, h3⟩, _⟩ hq
    exact letOwned_ref (cls := "tuple_iterator") ⟨o, h1, h2, h3⟩ (fun _ => .inr (by decide)) hq
  · cases e : s.heap.get? s.heap.objs.size with
    | none => rfl
    | some o => exact absurd (Heap.lt_size e) (Nat.lt_irrefl _)

/-- the items of a loop's source -/
noncomputable def WI (prog : Program) (w : World) (B : Shared) (A : Around) (env : Env) (σ : Store) (e : Expr) (Q : List D → Prop) : Prop :=
  ∀ O Hd s, Inv B O Hd env σ s → wpAny (model prog w) A (eval e env) (fun x s₁ => wpAny (model prog w) A (pyIter x) (fun it s₂ => Kp s s₂ ∧ ∃ I ds, it = .ref I ∧ It prog w A s (O ++ Hd) I ds s₂ ∧ Q ds) no s₁) no s

theorem It.older {X : List Addr} {I : Addr} {ds : List D} {s₀ s₁ s : Shared} (t : It prog w A s₁ X I ds s) (k : Kp s₀ s₁) : It prog w A s₀ X I ds s := by
  refine ⟨t.walk, ?_⟩
  cases e : s₀.heap.get? I with
  | none => rfl
  | some o => have := k.get _ _ e; rw [t.fresh] at this; cases this

theorem WI_lst {e : Expr} {Q : List D → Prop} (hA : A.handled = none) (h : WE prog w B A env σ e (fun d => ∃ ds, d = .lst ds ∧ Q ds)) : WI prog w B A env σ e Q := fun O Hd s I => by
  refine wpAny_mono (h O Hd s I) (fun v s₁ ⟨k₁, d, r, ds, e, q⟩ => ?_) fun _ _ f => f.elim
  subst e
  exact wpAny_mono (iter_lst hA (I.keeps k₁).lives r) (fun it s₂ ⟨k₂, I', e, t⟩ => ⟨k₁.trans k₂, I', ds, e, t.older k₁, q⟩) fun _ _ f => f
theorem WI_tup {e : Expr} {Q : List D → Prop} (hA : A.handled = none) (h : WE prog w B A env σ e (fun d => ∃ ds, d = .tup ds ∧ Q ds)) : WI prog w B A env σ e Q := fun O Hd s I => by
  refine wpAny_mono (h O Hd s I) (fun v s₁ ⟨k₁, d, r, ds, e, q⟩ => ?_) fun _ _ f => f.elim
  subst e
  exact wpAny_mono (iter_tup hA (I.keeps k₁).lives r) (fun it s₂ ⟨k₂, I', e, t⟩ => ⟨k₁.trans k₂, I', ds, e, t.older k₁, q⟩) fun _ _ f => f

/-- what a statement leaves -/
inductive Out where
  | next | brk | cont
  | ret (d : D)

noncomputable def FlowIs (h : Heap) (X : List Addr) : Out → Flow → Prop
  | .next, f => f = .next
  | .brk, f => f = .brk
  | .cont, f => f = .cont
  | .ret d, f => ∃ v, f = .ret v ∧ Rep h X d v

/-- what is not the frame's own stays -/
structure Ext (O : List Addr) (s : Shared) (O' : List Addr) (s' : Shared) : Prop where
  same : ∃ h tk, s' = { s with heap := h, toks := tk } ∧ s.toks ≤ tk
  keep : ∀ a o, a ∉ O → s.heap.get? a = some o → s'.heap.get? a = some o
  own : ∀ a, a ∈ O' → a ∈ O ∨ s.heap.get? a = none

theorem Ext.refl (O : List Addr) (s : Shared) : Ext O s O s := ⟨⟨s.heap, s.toks, rfl, Nat.le_refl _⟩, fun _ _ _ e => e, fun _ h => .inl h⟩
theorem Ext.of {O : List Addr} {s s' : Shared} (k : Kp s s') : Ext O s O s' := ⟨k.same, fun _ _ _ e => k.get _ _ e, fun _ h => .inl h⟩
theorem Ext.trans {O O' O'' : List Addr} {s s' s'' : Shared} (x : Ext O s O' s') (y : Ext O' s' O'' s'') : Ext O s O'' s'' := by
  refine ⟨?_, fun a o ha e => ?_, fun a ha => ?_⟩
  · obtain ⟨h, tk, rfl, ht⟩ := x.same
    obtain ⟨h', tk', rfl, ht'⟩ := y.same
    exact ⟨h', tk', rfl, Nat.le_trans ht ht'⟩
  · refine y.keep a o (fun h => ?_) (x.keep a o ha e)
    rcases x.own a h with h1 | h1
    · exact ha h1
    · rw [h1] at e; cases e
  · rcases y.own a ha with h1 | h1
    · exact x.own a h1
    · by_cases ha' : a ∈ O
      · exact .inl ha'
      · right
        cases e : s.heap.get? a with
        | none => rfl
        | some o => have := x.keep a o ha' e; rw [h1] at this; cases this

noncomputable def WS (prog : Program) (w : World) (B : Shared) (A : Around) (env : Env) (σ : Store) (b : List Stmt) (Q : Out → Store → Prop) : Prop :=
  ∀ O Hd s, Inv B O Hd env σ s → wpAny (model prog w) A (execs b env) (fun f s' => ∃ O' o σ', Ext O s O' s' ∧ Inv B O' Hd env σ' s' ∧ FlowIs s'.heap (O' ++ Hd) o f ∧ Q o σ') no s
noncomputable def WX (prog : Program) (w : World) (B : Shared) (A : Around) (env : Env) (σ : Store) (b : Stmt) (Q : Out → Store → Prop) : Prop :=
  ∀ O Hd s, Inv B O Hd env σ s → wpAny (model prog w) A (exec b env) (fun f s' => ∃ O' o σ', Ext O s O' s' ∧ Inv B O' Hd env σ' s' ∧ FlowIs s'.heap (O' ++ Hd) o f ∧ Q o σ') no s

theorem WS.mono {b : List Stmt} {Q Q' : Out → Store → Prop} (h : WS prog w B A env σ b Q) (hq : ∀ o σ', Q o σ' → Q' o σ') : WS prog w B A env σ b Q' := fun O Hd s I =>
  wpAny_mono (h O Hd s I) (fun v s' ⟨O', o, σ', x, i, f, q⟩ => ⟨O', o, σ', x, i, f, hq _ _ q⟩) fun _ _ f => f
theorem WX.mono {b : Stmt} {Q Q' : Out → Store → Prop} (h : WX prog w B A env σ b Q) (hq : ∀ o σ', Q o σ' → Q' o σ') : WX prog w B A env σ b Q' := fun O Hd s I =>
  wpAny_mono (h O Hd s I) (fun v s' ⟨O', o, σ', x, i, f, q⟩ => ⟨O', o, σ', x, i, f, hq _ _ q⟩) fun _ _ f => f

theorem WS_nil {Q : Out → Store → Prop} (q : Q .next σ) : WS prog w B A env σ [] Q := fun O Hd s I =>
  wpAny_execs_nil ⟨O, .next, σ, Ext.refl _ _, I, rfl, q⟩
theorem WS_cons {st : Stmt} {rest : List Stmt} {Q : Out → Store → Prop}
    (h : WX prog w B A env σ st (fun o σ' => match o with | .next => WS prog w B A env σ' rest Q | .brk => Q .brk σ' | .cont => Q .cont σ' | .ret d => Q (.ret d) σ')) : WS prog w B A env σ (st :: rest) Q := fun O Hd s I => by
  refine wpAny_execs_cons (wpAny_mono (h O Hd s I) (fun f s₁ ⟨O₁, o, σ₁, x, i, fl, q⟩ => ?_) fun _ _ f => f)
  cases o with
  | next =>
    cases fl
    exact wpAny_mono (q O₁ Hd s₁ i) (fun f s' ⟨O', o, σ', x', i', fl, q⟩ => ⟨O', o, σ', x.trans x', i', fl, q⟩) fun _ _ f => f
  | brk => cases fl; exact ⟨O₁, .brk, σ₁, x, i, rfl, q⟩
  | cont => cases fl; exact ⟨O₁, .cont, σ₁, x, i, rfl, q⟩
  | ret d => obtain ⟨v, rfl, r⟩ := fl; exact ⟨O₁, .ret d, σ₁, x, i, ⟨v, rfl, r⟩, q⟩

theorem WX_return {e : Expr} {pos : Pos} {Q : Out → Store → Prop} (h : WE prog w B A env σ e (fun d => Q (.ret d) σ)) : WX prog w B A env σ (.Return (some e) pos) Q := fun O Hd s I =>
  wpAny_Return_some (wpAny_mono (h O Hd s I) (fun v s' ⟨k, d, r, q⟩ => ⟨O, .ret d, σ, Ext.of k, I.keeps k, ⟨v, rfl, r⟩, q⟩) fun _ _ f => f)

theorem WX_if {t : Expr} {a b : List Stmt} {pos : Pos} {Q : Out → Store → Prop} (h : WT prog w B A env σ t (fun c => if c = true then WS prog w B A env σ a Q else WS prog w B A env σ b Q)) :
    WX prog w B A env σ (.If t a b pos) Q := fun O Hd s I => by
  refine wpAny_If (wpAny_mono (h O Hd s I) (fun c s₁ ⟨k, q⟩ => ?_) fun _ _ f => f)
  cases c with
  | true =>
    simp only [if_true] at q ⊢
    exact wpAny_mono (q O Hd s₁ (I.keeps k)) (fun f s' ⟨O', o, σ', x', i', fl, q⟩ => ⟨O', o, σ', (Ext.of k).trans x', i', fl, q⟩) fun _ _ f => f
  | false =>
    simp only [Bool.false_eq_true, if_false] at q ⊢
    exact wpAny_mono (q O Hd s₁ (I.keeps k)) (fun f s' ⟨O', o, σ', x', i', fl, q⟩ => ⟨O', o, σ', (Ext.of k).trans x', i', fl, q⟩) fun _ _ f => f

/-- a name that the frame may store -/
noncomputable def canStore (env : Env) (x : Str) : Prop := env.kindOf x = some .local ∨ (env.kindOf x = some .cell ∧ env.func.isSome = true ∧ (env.cells.lookup x).isSome = true)

theorem Inv.after {O Hd : List Addr} {s : Shared} (I : Inv B O Hd env σ s) {p : Addr} {h' : Heap} {tk : Nat} (hp : p ∈ O) (hs : Heap.SameBut p s.heap h') (hlive : ∃ o, h'.get? p = some o) (ht : s.toks ≤ tk) :
    (∀ d v, Rep s.heap (O ++ Hd) d v → Rep h' (O ++ Hd) d v) ∧ (∀ ds vs, Reps s.heap (O ++ Hd) ds vs → Reps h' (O ++ Hd) ds vs) ∧ Ext O s O { s with heap := h', toks := tk } ∧
    (∀ b o, B.heap.get? b = some o → h'.get? b = some o ∧ b ∉ O ++ Hd) ∧ (∀ a, a ∈ O ++ Hd → ∃ o, h'.get? a = some o) := by
  have key : ∀ a o, a ∉ O ++ Hd → s.heap.get? a = some o → h'.get? a = some o ∧ a ∉ O ++ Hd := fun a o ha e => ⟨(hs.2 a (fun q => ha (q ▸ List.mem_append_left _ hp))).trans e, ha⟩
  refine ⟨fun d v r => r.mono key, fun d v r => r.mono key, ⟨⟨h', tk, rfl, ht⟩, fun a o ha e => (hs.2 a (fun q => ha (q ▸ hp))).trans e, fun _ h => .inl h⟩,
    fun b o e => key b o (I.base b o e).2 (I.base b o e).1, fun a ha => ?_⟩
  by_cases q : a = p
  · rw [q]; exact hlive
  · obtain ⟨o, ho⟩ := I.live a ha; exact ⟨o, (hs.2 a q).trans ho⟩

theorem Inv.storeS {O Hd : List Addr} {s : Shared} (I : Inv B O Hd env σ s) {x : Str} {sl₀ : Slot} {v : Value} (hx : canStore env x) (r : SlotRep s.heap O Hd env sl₀ v)
    (one' : ∀ y z ds es, (σ.set x sl₀) y = some (.own ds) → (σ.set x sl₀) z = some (.own es) → y = z) {Q : Unit → Shared → Prop} {E : Value → Shared → Prop} {M : Model}
    (h : ∀ s', Ext O s O s' → Inv B O Hd env (σ.set x sl₀) s' → Q () s') : wpAny M A (storeName env x v) Q E s := by
  obtain ⟨m, cm, ns, cs, vs⟩ := I.vars
  rcases hx with hx | ⟨hx, hf, hl⟩
  · refine wpAny_storeName_local hx ns (fun h' hn hs => ?_) (by rw [I.kind]; rfl)
    obtain ⟨o, es, ep, ho, _⟩ := id hn
    obtain ⟨k1, k2, k3, k4, k5⟩ := I.after (tk := s.toks + 1) I.loc hs ⟨o, ho⟩ (Nat.le_succ _)
    refine h _ k3 ⟨?_, k4, k5, I.disj, I.kind, I.glob, I.blt, I.loc, I.cellIn, I.cellNe, I.cellInj, ⟨_, cm, hn, fun y c e => (cs y c e).sameBut hs (I.cellNe y c e), fun y sl e => ?_⟩, one'⟩
    · obtain ⟨h₀, tk, hs₀, h0⟩ := I.same; exact ⟨h', s.toks + 1, by rw [hs₀], Nat.succ_pos _⟩
    · unfold Store.set at e
      by_cases q : y = x
      · rw [if_pos q] at e
        cases e
        refine ⟨v, ?_, ?_⟩
        · unfold Holds; rw [q, hx]; simp
        · cases sl₀ with
          | dat d' => exact k1 d' v r
          | own ds =>
            obtain ⟨a, ws, h3, h4, h5, h6, h7, h8⟩ := r
            exact ⟨a, ws, h3, h4, h5, h6, h7.at fun o e => (hs.2 a h5).trans e, k2 _ _ h8⟩
      · rw [if_neg q] at e
        obtain ⟨v', h1, h2⟩ := vs y sl e
        refine ⟨v', ?_, ?_⟩
        · unfold Holds at h1 ⊢
          split <;> simp_all
        · cases sl with
          | dat d' => exact k1 d' v' h2
          | own ds =>
            obtain ⟨a, ws, h3, h4, h5, h6, h7, h8⟩ := h2
            exact ⟨a, ws, h3, h4, h5, h6, h7.at fun o e => (hs.2 a h5).trans e, k2 _ _ h8⟩
  · obtain ⟨c, hc⟩ := Option.isSome_iff_exists.mp hl
    refine wpAny_storeName_cell I.kind hx hc (cs x c hc) fun h' hv hs => ?_
    have hcO := I.cellIn hf x c hc
    obtain ⟨o, ho, hod⟩ := id hv
    obtain ⟨k1, k2, k3, k4, k5⟩ := I.after (tk := s.toks) hcO hs ⟨o, ho⟩ (Nat.le_refl _)
    refine h _ k3 ⟨?_, k4, k5, I.disj, I.kind, I.glob, I.blt, I.loc, I.cellIn, I.cellNe, I.cellInj, ⟨m, fun y => if y = x then some v else cm y, ns.sameBut hs (Ne.symm (I.cellNe x c hc)), fun y c' e => ?_, fun y sl e => ?_⟩, one'⟩
    · obtain ⟨h₀, tk, hs₀, h0⟩ := I.same; exact ⟨h', s.toks, by rw [hs₀], Nat.pos_of_ne_zero I.pos⟩
    · by_cases q : y = x
      · subst q; rw [hc] at e; cases e; simpa using hv
      · simp only [if_neg q]
        exact (cs y c' e).sameBut hs fun z => q (I.cellInj y x c' e (z ▸ hc))
    · unfold Store.set at e
      by_cases q : y = x
      · rw [if_pos q] at e
        cases e
        refine ⟨v, ?_, ?_⟩
        · unfold Holds; rw [q, hx]; simp [hl]
        · cases sl₀ with
          | dat d' => exact k1 d' v r
          | own ds =>
            obtain ⟨a, ws, h3, h4, h5, h6, h7, h8⟩ := r
            exact ⟨a, ws, h3, h4, h5, h6, h7.at fun o e => (hs.2 a (h6 x c hc)).trans e, k2 _ _ h8⟩
      · rw [if_neg q] at e
        obtain ⟨v', h1, h2⟩ := vs y sl e
        refine ⟨v', ?_, ?_⟩
        · unfold Holds at h1 ⊢
          split <;> simp_all
        · cases sl with
          | dat d' => exact k1 d' v' h2
          | own ds =>
            obtain ⟨a, ws, h3, h4, h5, h6, h7, h8⟩ := h2
            exact ⟨a, ws, h3, h4, h5, h6, h7.at fun o e => (hs.2 a (h6 x c hc)).trans e, k2 _ _ h8⟩

theorem Inv.store {O Hd : List Addr} {s : Shared} (I : Inv B O Hd env σ s) {x : Str} {d : D} {v : Value} (hx : canStore env x) (r : Rep s.heap (O ++ Hd) d v) {Q : Unit → Shared → Prop} {E : Value → Shared → Prop} {M : Model}
    (h : ∀ s', Ext O s O s' → Inv B O Hd env (σ.set x (.dat d)) s' → Q () s') : wpAny M A (storeName env x v) Q E s := by
  refine I.storeS (sl₀ := .dat d) hx r ?_ h
  intro y z ds es h1 h2
  unfold Store.set at h1 h2
  split at h1
  · cases h1
  · split at h2
    · cases h2
    · exact I.one y z ds es h1 h2

theorem WX_assign {x : Str} {pos' pos : Pos} {value : Expr} {Q : Out → Store → Prop} (hx : canStore env x) (h : WE prog w B A env σ value (fun d => Q .next (σ.set x (.dat d))))
    (hs : swapsWith value (some (.Name x pos')) pos.line env = pure false := by rfl) : WX prog w B A env σ (.Assign [.Name x pos'] value pos) Q := fun O Hd s I => by
  refine wpAny_Assign_Name (wpAny_mono (h O Hd s I) (fun v s₁ ⟨k, d, r, q⟩ => ?_) fun _ _ f => f) hs
  exact (I.keeps k).store hx r fun s' x' i' => ⟨O, .next, _, (Ext.of k).trans x', i', rfl, q⟩

end
end Mine

end
section
open PySem PySem.W PySem.Calls PyProof.Rows
namespace Mine

section
variable {prog : Program} {w : World} {B : Shared} {A : Around} {env : Env} {σ : Store}

/-- storing a datum into a target -/
noncomputable def WA (prog : Program) (w : World) (B : Shared) (A : Around) (env : Env) (σ : Store) (target : Expr) (d : D) (σ' : Store) : Prop :=
  ∀ O Hd s v, Inv B O Hd env σ s → Rep s.heap (O ++ Hd) d v → wpAny (model prog w) A (assign target env v) (fun _ s' => Ext O s O s' ∧ Inv B O Hd env σ' s') no s

theorem WA_name {x : Str} {pos : Pos} {d : D} (hx : canStore env x) : WA prog w B A env σ (.Name x pos) d (σ.set x (.dat d)) := fun O Hd s v I r =>
  assign_Name (I.store hx r fun s' x' i' => ⟨x', i'⟩)

noncomputable def setAll (σ : Store) : List Str → List D → Store
  | x :: xs, d :: ds => setAll (σ.set x (.dat d)) xs ds
  | _, _ => σ

noncomputable def namesOf : List Expr → Option (List Str)
  | [] => some []
  | .Name x _ :: rest => (namesOf rest).map (x :: ·)
  | _ :: _ => none

theorem draw_walk {I : Addr} {fp : List Addr} {n : Nat} {P : Nat → Value → Prop} {St : Nat → Heap → Prop} {E : Value → Shared → Prop} (W : Walks prog w A I fp [I] n P St) :
    ∀ (k i : Nat) (s : Shared) (Q : List Value → Shared → Prop), i + k = n → St i s.heap →
      (∀ vs h' tk, s.toks ≤ tk → vs.length = k → (∀ j v, vs[j]? = some v → P (i + j) v) → St n h' → (∀ b o, b ∉ [I] → s.heap.get? b = some o → h'.get? b = some o) → Q vs { s with heap := h', toks := tk }) →
      wpAny (model prog w) A (draw (.ref I) k) Q E s
  | 0, i, s, Q, hk, st, hQ => by
    show wpAny _ _ (pure []) Q E s
    refine wpAny_pure ?_
    have hi : i = n := by omega
    subst hi
    exact hQ [] s.heap s.toks (Nat.le_refl _) rfl (by simp) st fun _ _ _ e => e
  | k + 1, i, s, Q, hk, st, hQ => by
    show wpAny _ _ (pyNext (.ref I) >>= _) Q E s
    refine wpAny_bind (wpAny_with_toks (n := s.toks) (Nat.le_refl _) (W.item i s _ _ (by omega) st fun v h₁ tk₁ pv st₁ k₁ ht₁ => ?_))
    refine wpAny_bind (wpAny_holding (draw_walk W k (i + 1) _ _ (by omega) st₁ fun vs h₂ tk₂ ht₂ hl hp st₂ k₂ => wpAny_pure ?_))
    refine hQ (v :: vs) h₂ tk₂ (Nat.le_trans ht₁ ht₂) (by rw [List.length_cons, hl]) (fun j u hj => ?_) st₂ fun b o hb e => k₂ b o hb (k₁ b o hb e)
    cases j with
    | zero => simp at hj; subst hj; exact pv
    | succ j => simp at hj; have := hp j u hj; rwa [show i + (j + 1) = i + 1 + j by omega]

theorem reps_of_places {h : Heap} {X : List Addr} : ∀ (ds : List D) (vs : List Value), vs.length = ds.length → (∀ (j : Nat) v d, vs[j]? = some v → ds[j]? = some d → Rep h X d v) → Reps h X ds vs
  | [], vs, hl, _ => by
    have : vs = [] := by simpa using hl
    exact this
  | d :: ds, [], hl, _ => by simp at hl
  | d :: ds, v :: vs, hl, hp => ⟨v, vs, rfl, hp 0 v d rfl rfl, reps_of_places ds vs (by simpa using hl) fun j v' d' h1 h2 => hp (j + 1) v' d' (by simpa using h1) (by simpa using h2)⟩

theorem unpack_it {X : List Addr} {s : Shared} {ds : List D} {v : Value} {n : Nat} (hn : ds.length = n) (l : Live X s)
    (hni : ∀ Q : Bool → Shared → Prop, Q false s → wpAny (model prog w) A (notIterableAtAll v) Q no s)
    (hit : wpAny (model prog w) A (pyIter v) (fun it s' => Kp s s' ∧ ∃ I, it = .ref I ∧ It prog w A s X I ds s') no s) :
    wpAny (model prog w) A (unpackItems v n none) (fun vs s' => Kp s s' ∧ Reps s'.heap X ds vs) no s := by
  unfold unpackItems
  refine wpAny_bind (hni _ ?_)
  simp only [Bool.false_eq_true, if_false]
  refine wpAny_bind (wpAny_holding (wpAny_mono hit (fun it s₁ ⟨k₁, I, e, t⟩ => ?_) fun _ _ f => f))
  subst e
  obtain ⟨fp, P, St, W, st, hf, hf', hI, hP, hgo⟩ := t.walk
  have hIs : ∀ b o, s.heap.get? b = some o → b ∉ [I] := fun b o e hb => by
    simp at hb; subst hb; rw [t.fresh] at e; cases e
  refine wpAny_bind (wpAny_holding (draw_walk W n 0 s₁ _ (by omega) st fun vs h₂ tk₂ ht₂ hl hp st₂ k₂ => ?_))
  simp only [hl, Nat.lt_irrefl, if_false]
  refine wpAny_bind (wpAny_holding (wpAny_with_toks (n := tk₂) (Nat.le_refl _) (W.done _ _ _ st₂ fun h₃ tk₃ k₃ ht₃ => ?_)))
  simp only [Option.isSome_none, Bool.false_eq_true, if_false]
  refine wpAny_pure ⟨?_, ?_⟩
  · obtain ⟨h₁, tk₁, e₁, ht₁⟩ := k₁.same
    refine ⟨⟨h₃, tk₃, by rw [e₁], Nat.le_trans ht₁ (Nat.le_trans (by rw [e₁] at ht₂; exact ht₂) ht₃)⟩, fun b o e => k₃ b o (hIs b o e) (k₂ b o (hIs b o e) (k₁.get b o e))⟩
  · have r₁ : Reps s₁.heap (I :: X) ds vs := reps_of_places ds vs (by omega) fun j v d hv hd => hP _ v d (by simpa using hp j v hv) hd
    exact r₁.mono fun a o ha e => ⟨k₃ a o (fun q => ha (by simp at q; simp [q])) (k₂ a o (fun q => ha (by simp at q; simp [q])) e), fun q => ha (List.mem_cons_of_mem _ q)⟩

theorem notIter_list {a : Addr} {items : Array Value} {s : Shared} (hl : s.heap.IsList a items) : ∀ Q : Bool → Shared → Prop, Q false s → wpAny (model prog w) A (notIterableAtAll (.ref a)) Q no s := fun Q hq => by
  unfold notIterableAtAll
  exact wpAny_bind (wpAny_specialOf hl.typeIs F.slot_list_iter.lookup (wpAny_pure hq))
theorem notIter_tuple {a : Addr} {items : Array Value} {s : Shared} (hl : s.heap.IsTuple a items) : ∀ Q : Bool → Shared → Prop, Q false s → wpAny (model prog w) A (notIterableAtAll (.ref a)) Q no s := fun Q hq => by
  unfold notIterableAtAll
  exact wpAny_bind (wpAny_specialOf hl.typeIs F.slot_tuple_iter.lookup (wpAny_pure hq))

theorem unpack_lst {X : List Addr} {s : Shared} {ds : List D} {v : Value} {n : Nat} (hA : A.handled = none) (hn : ds.length = n) (l : Live X s) (r : Rep s.heap X (.lst ds) v) :
    wpAny (model prog w) A (unpackItems v n none) (fun vs s' => Kp s s' ∧ Reps s'.heap X ds vs) no s := by
  refine unpack_it hn l ?_ (iter_lst hA l r)
  obtain ⟨a, vs, rfl, ha, hl, hr⟩ := r.lst_inv
  exact notIter_list hl.isList
theorem unpack_tup {X : List Addr} {s : Shared} {ds : List D} {v : Value} {n : Nat} (hA : A.handled = none) (hn : ds.length = n) (l : Live X s) (r : Rep s.heap X (.tup ds) v) :
    wpAny (model prog w) A (unpackItems v n none) (fun vs s' => Kp s s' ∧ Reps s'.heap X ds vs) no s := by
  refine unpack_it hn l ?_ (iter_tup hA l r)
  obtain ⟨a, vs, rfl, ha, hl, hr⟩ := r.tup_inv
  exact notIter_tuple hl.isTuple

theorem assignEach_names : ∀ {elts : List Expr} {xs : List Str}, namesOf elts = some xs → (assignEach elts env).length = xs.length ∧ (assignEach elts env).findIdx? (·.1) = none ∧
    ∃ ps : List Pos, ps.length = xs.length ∧ (assignEach elts env).map (·.2) = (xs.zip ps).map fun p => assign (.Name p.1 p.2) env
  | [], xs, h => by cases h; exact ⟨rfl, rfl, [], rfl, rfl⟩
  | e :: rest, xs, h => by
    cases e with
    | Name x pos =>
      simp only [namesOf] at h
      cases hr : namesOf rest with
      | none => rw [hr] at h; cases h
      | some ys =>
        rw [hr] at h; cases h
        obtain ⟨h1, h2, ps, h3, h4⟩ := assignEach_names hr
        refine ⟨?_, ?_, pos :: ps, by simp [h3], ?_⟩
        · show (assignEach rest env).length + 1 = ys.length + 1
          rw [h1]
        · show List.findIdx? (·.1) ((false, assign (.Name x pos) env) :: assignEach rest env) = none
          rw [List.findIdx?_cons, h2]; rfl
        · show assign (.Name x pos) env :: (assignEach rest env).map (·.2) = _
          rw [h4]; rfl
    | _ => simp [namesOf] at h

theorem assign_order {Hd O : List Addr} : ∀ (xs : List Str) (ps : List Pos) (ds : List D) (vs : List Value) (σ : Store) (s : Shared), (∀ x ∈ xs, canStore env x) → ps.length = xs.length → ds.length = xs.length →
    Inv B O Hd env σ s → Reps s.heap (O ++ Hd) ds vs → wpAny (model prog w) A (assignInOrder ((xs.zip ps).map fun p => assign (.Name p.1 p.2) env) vs) (fun _ s' => Ext O s O s' ∧ Inv B O Hd env (setAll σ xs ds) s') no s
  | [], _, ds, vs, σ, s, _, _, hd, I, r => by
    have : ds = [] := by simpa using hd
    subst this
    show wpAny _ _ (pure ()) _ _ s
    exact wpAny_pure ⟨Ext.refl _ _, I⟩
  | x :: xs, [], ds, vs, σ, s, _, hp, _, _, _ => by simp at hp
  | x :: xs, p :: ps, [], vs, σ, s, _, _, hd, _, _ => by simp at hd
  | x :: xs, p :: ps, d :: ds, vs, σ, s, hc, hp, hd, I, ⟨v, vs', e, r, rs⟩ => by
    subst e
    show wpAny _ _ (do holding vs' (assign (.Name x p) env v); assignInOrder ((xs.zip ps).map fun p => assign (.Name p.1 p.2) env) vs') _ _ s
    refine wpAny_bind (wpAny_holding (assign_Name (I.store (hc x (by simp)) r fun s₁ x₁ i₁ => ?_)))
    have rs' : Reps s₁.heap (O ++ Hd) ds vs' := rs.mono fun a o ha e => ⟨x₁.keep a o (fun q => ha (List.mem_append_left _ q)) e, ha⟩
    refine wpAny_mono (assign_order xs ps ds vs' _ s₁ (fun y hy => hc y (by simp [hy])) (by simpa using hp) (by simpa using hd) i₁ rs') (fun _ s' ⟨x₂, i₂⟩ => ⟨x₁.trans x₂, i₂⟩) fun _ _ f => f

theorem WA_tuple {elts : List Expr} {k : Nat} {pos : Pos} {d : D} {ds : List D} {xs : List Str} (hA : A.handled = none) (hx : namesOf elts = some xs) (hc : ∀ x ∈ xs, canStore env x) (hd : d = .lst ds ∨ d = .tup ds) (hl : ds.length = xs.length) :
    WA prog w B A env σ (.Tuple elts k pos) d (setAll σ xs ds) := fun O Hd s v I r => by
  obtain ⟨h1, h2, ps, h3, h4⟩ := assignEach_names (env := env) hx
  rw [arm_assign_Tuple]
  refine wpAny_bind (wpAny_standAt ?_)
  unfold unpack
  rw [h1, h2, h4]
  have U : wpAny (model prog w) A (unpackItems v xs.length none) (fun vs s' => Kp s s' ∧ Reps s'.heap (O ++ Hd) ds vs) no s := by
    rcases hd with rfl | rfl
    · exact unpack_lst hA hl I.lives r
    · exact unpack_tup hA hl I.lives r
  refine wpAny_bind (wpAny_holding (wpAny_mono U (fun vs s₁ ⟨k₁, rs⟩ => ?_) fun _ _ f => f))
  exact wpAny_mono (assign_order xs ps ds vs σ s₁ hc h3 hl (I.keeps k₁) rs) (fun _ s' ⟨x₂, i₂⟩ => ⟨(Ext.of k₁).trans x₂, i₂⟩) fun _ _ f => f

theorem WX_assign_tuple {elts : List Expr} {k : Nat} {tpos pos : Pos} {value : Expr} {xs : List Str} {Q : Out → Store → Prop} (hA : A.handled = none) (hx : namesOf elts = some xs) (hc : ∀ x ∈ xs, canStore env x)
    (h : WE prog w B A env σ value (fun d => ∃ ds, (d = .lst ds ∨ d = .tup ds) ∧ ds.length = xs.length ∧ Q .next (setAll σ xs ds)))
    (hs : swapsWithSole [.Tuple elts k tpos] value pos.line env = pure false := by rfl)
    (hw : swappedStores [.Tuple elts k tpos] value env = pure none := by rfl) : WX prog w B A env σ (.Assign [.Tuple elts k tpos] value pos) Q := fun O Hd s I => by
  refine Assign_Tuple (wpAny_mono (h O Hd s I) (fun v s₁ ⟨k, d, r, ds, hd, hl, q⟩ => ?_) fun _ _ f => f) hs hw
  exact wpAny_mono (WA_tuple (prog := prog) (w := w) (B := B) (σ := σ) (k := 0) (pos := tpos) hA hx hc hd hl O Hd s₁ v (I.keeps k) r) (fun _ s' ⟨x', i'⟩ => ⟨O, .next, _, (Ext.of k).trans x', i', rfl, q⟩) fun _ _ f => f

-- a loop
noncomputable def LoopP (prog : Program) (w : World) (B : Shared) (A : Around) (env : Env) (target : Expr) (body : List Stmt) (Q : Out → Store → Prop) : List D → Store → Prop
  | [], σ => Q .next σ
  | d :: ds, σ => ∃ σ', WA prog w B A env σ target d σ' ∧ WS prog w B A env σ' body (fun o σ'' => match o with
      | .next => LoopP prog w B A env target body Q ds σ''
      | .cont => LoopP prog w B A env target body Q ds σ''
      | .brk => Q .next σ''
      | .ret v => Q (.ret v) σ'')

theorem Inv.hold {O Hd : List Addr} {s₀ s : Shared} {I : Addr} (J : Inv B O Hd env σ s₀) (k : Kp s₀ s) (hI : s₀.heap.get? I = none) (hI' : ∃ o, s.heap.get? I = some o) : Inv B O (I :: Hd) env σ s := by
  have J' := J.keeps k
  have ne : ∀ b o, s₀.heap.get? b = some o → b ≠ I := fun b o e q => by subst q; rw [hI] at e; cases e
  have nO : I ∉ O := fun h => by obtain ⟨o, ho⟩ := J.live I (List.mem_append_left _ h); exact ne _ _ ho rfl
  have key : ∀ a o, a ∉ O ++ Hd → s₀.heap.get? a = some o → s.heap.get? a = some o ∧ a ∉ O ++ I :: Hd := fun a o ha e => ⟨k.get a o e, fun q => by
    rcases List.mem_append.mp q with q | q
    · exact ha (List.mem_append_left _ q)
    · rcases List.mem_cons.mp q with q | q
      · exact ne a o e q
      · exact ha (List.mem_append_right _ q)⟩
  obtain ⟨m, cm, ns, cs, vs⟩ := J.vars
  refine ⟨J'.same, fun b o e => key b o (J.base b o e).2 (J.base b o e).1, fun a ha => ?_, fun a ha q => ?_, J.kind, J.glob, J.blt, J.loc, J.cellIn, J.cellNe, J.cellInj, ⟨m, cm, ns.keeps k.get, fun x c e => (cs x c e).keeps k.get, fun x sl e => ?_⟩, J.one⟩
  · rcases List.mem_append.mp ha with q | q
    · exact J'.live a (List.mem_append_left _ q)
    · rcases List.mem_cons.mp q with q | q
      · subst q; exact hI'
      · exact J'.live a (List.mem_append_right _ q)
  · rcases List.mem_cons.mp q with q | q
    · subst q; exact nO ha
    · exact J.disj a ha q
  · obtain ⟨v, h1, h2⟩ := vs x sl e
    refine ⟨v, h1, ?_⟩
    cases sl with
    | dat d => exact Rep.mono key h2
    | own ds => obtain ⟨a, ws, h3, h4, h5, h6, h7, h8⟩ := h2; exact ⟨a, ws, h3, h4, h5, h6, h7.at fun o e => k.get _ o e, h8.mono key⟩

theorem Inv.unhold {O Hd : List Addr} {s s' : Shared} {I : Addr} (J : Inv B O (I :: Hd) env σ s) (hf : env.func.isSome = true) (hn : I ∉ Hd) (hs : ∃ h tk, s' = { s with heap := h, toks := tk } ∧ s.toks ≤ tk) (k : ∀ b o, b ≠ I → s.heap.get? b = some o → s'.heap.get? b = some o) : Inv B O Hd env σ s' := by
  have sub : ∀ a, a ∉ O ++ I :: Hd → a ∉ O ++ Hd := fun a ha q => ha (by
    rcases List.mem_append.mp q with q | q
    · exact List.mem_append_left _ q
    · exact List.mem_append_right _ (List.mem_cons_of_mem _ q))
  have neI : ∀ a, a ∉ O ++ I :: Hd → a ≠ I := fun a ha q => ha (by subst q; simp)
  have neO : ∀ a, a ∈ O → a ≠ I := fun a ha q => J.disj a ha (by subst q; simp)
  have key : ∀ a o, a ∉ O ++ I :: Hd → s.heap.get? a = some o → s'.heap.get? a = some o ∧ a ∉ O ++ Hd := fun a o ha e => ⟨k a o (neI a ha) e, sub a ha⟩
  obtain ⟨m, cm, ns, cs, vs⟩ := J.vars
  have nL := neO _ J.loc
  refine ⟨?_, fun b o e => key b o (J.base b o e).2 (J.base b o e).1, fun a ha => ?_, fun a ha q => J.disj a ha (List.mem_cons_of_mem _ q), J.kind, J.glob, J.blt, J.loc, J.cellIn, J.cellNe, J.cellInj, ?_, J.one⟩
  · obtain ⟨h, tk, e, ht⟩ := hs; obtain ⟨h₀, tk₀, e₀, h0⟩ := J.same; exact ⟨h, tk, by rw [e, e₀], Nat.lt_of_lt_of_le (Nat.pos_of_ne_zero J.pos) ht⟩
  · rcases List.mem_append.mp ha with q | q
    · obtain ⟨o, ho⟩ := J.live a (List.mem_append_left _ q); exact ⟨o, k a o (neO a q) ho⟩
    · obtain ⟨o, ho⟩ := J.live a (List.mem_append_right _ (List.mem_cons_of_mem _ q)); exact ⟨o, k a o (fun z => hn (z ▸ q)) ho⟩
  · refine ⟨m, cm, ns.at' fun o e => k _ o nL e, fun x c e => ?_, fun x sl e => ?_⟩
    · obtain ⟨o, ho, hd⟩ := cs x c e; exact ⟨o, k c o (neO c (J.cellIn hf x c e)) ho, hd⟩
    · obtain ⟨v, h1, h2⟩ := vs x sl e
      refine ⟨v, h1, ?_⟩
      cases sl with
      | dat d => exact Rep.mono key h2
      | own ds => obtain ⟨a, ws, h3, h4, h5, h6, h7, h8⟩ := h2; exact ⟨a, ws, h3, h4, h5, h6, h7.at fun o e => k _ o (neO a h4) e, h8.mono key⟩

theorem Inv.mutHd {O Hd : List Addr} {s s' : Shared} {I : Addr} (J : Inv B O (I :: Hd) env σ s) (hf : env.func.isSome = true) (hn : I ∉ Hd) (hs : ∃ h tk, s' = { s with heap := h, toks := tk } ∧ s.toks ≤ tk) (hI : ∃ o, s'.heap.get? I = some o)
    (k : ∀ b o, b ≠ I → s.heap.get? b = some o → s'.heap.get? b = some o) : Inv B O (I :: Hd) env σ s' := by
  have neI : ∀ a, a ∉ O ++ I :: Hd → a ≠ I := fun a ha q => ha (by subst q; simp)
  have neO : ∀ a, a ∈ O → a ≠ I := fun a ha q => J.disj a ha (by subst q; simp)
  have key : ∀ a o, a ∉ O ++ I :: Hd → s.heap.get? a = some o → s'.heap.get? a = some o ∧ a ∉ O ++ I :: Hd := fun a o ha e => ⟨k a o (neI a ha) e, ha⟩
  obtain ⟨m, cm, ns, cs, vs⟩ := J.vars
  refine ⟨?_, fun b o e => key b o (J.base b o e).2 (J.base b o e).1, fun a ha => ?_, J.disj, J.kind, J.glob, J.blt, J.loc, J.cellIn, J.cellNe, J.cellInj, ?_, J.one⟩
  · obtain ⟨h, tk, e, ht⟩ := hs; obtain ⟨h₀, tk₀, e₀, h0⟩ := J.same; exact ⟨h, tk, by rw [e, e₀], Nat.lt_of_lt_of_le (Nat.pos_of_ne_zero J.pos) ht⟩
  · by_cases q : a = I
    · subst q; exact hI
    · obtain ⟨o, ho⟩ := J.live a ha; exact ⟨o, k a o q ho⟩
  · refine ⟨m, cm, ns.at' fun o e => k _ o (neO _ J.loc) e, fun x c e => ?_, fun x sl e => ?_⟩
    · obtain ⟨o, ho, hd⟩ := cs x c e; exact ⟨o, k c o (neO c (J.cellIn hf x c e)) ho, hd⟩
    · obtain ⟨v, h1, h2⟩ := vs x sl e
      refine ⟨v, h1, ?_⟩
      cases sl with
      | dat d => exact Rep.mono key h2
      | own ds => obtain ⟨a, ws, h3, h4, h5, h6, h7, h8⟩ := h2; exact ⟨a, ws, h3, h4, h5, h6, h7.at fun o e => k _ o (neO a h4) e, h8.mono key⟩

theorem WX_for {target iter : Expr} {body : List Stmt} {pos : Pos} {Q : Out → Store → Prop} (hf : env.func.isSome = true) (h : WI prog w B A env σ iter (fun ds => LoopP prog w B A env target body Q ds σ))
    (hs : ∀ x, foldedSetIterable iter env x = pure x := by intro _; rfl) : WX prog w B A env σ (.For target iter body [] pos) Q := fun O Hd s J => by
  refine wpAny_For (wpAny_mono (h O Hd s J) (fun x s₁ h₁ => wpAny_mono h₁ (fun it s₂ ⟨k₂, I, ds, e, t, L⟩ => ?_) fun _ _ f => f.elim) fun _ _ f => f.elim) hs
  subst e
  obtain ⟨fp, P, St, W, st, hfp, hfp', hI, hP, hgo⟩ := t.walk
  have nHd : I ∉ Hd := fun q => by obtain ⟨o, ho⟩ := J.live I (List.mem_append_right _ q); rw [t.fresh] at ho; cases ho
  have nO : I ∉ O := fun q => by obtain ⟨o, ho⟩ := J.live I (List.mem_append_left _ q); rw [t.fresh] at ho; cases ho
  have J₂ := J.hold k₂ t.fresh (hI 0 _ st)
  have hex : ∀ i d, ds[i]? = some d → i < ds.length := fun i d e => by
    rcases Nat.lt_or_ge i ds.length with h | h
    · exact h
    · rw [List.getElem?_eq_none h] at e; cases e
  refine codeAny_forLoop_any (fun n s' => ∃ i O' σ', n = ds.length + 1 - i ∧ i ≤ ds.length ∧ St i s'.heap ∧ Inv B O' (I :: Hd) env σ' s' ∧ Ext O s O' s' ∧ LoopP prog w B A env target body Q (ds.drop i) σ' ∧
      (∀ b ∈ fp, b ∉ O') ∧ (∀ i v d, P i v → ds[i]? = some d → Rep s'.heap (O' ++ I :: Hd) d v) ∧ (∀ b ∈ fp, ∃ o, s'.heap.get? b = some o)) ?_ (ds.length + 1) ⟨0, O, σ, by omega, by omega, st, J₂, Ext.of k₂, by simpa using L, fun b hb q => hfp b hb (List.mem_append_left _ q), ?_, hfp'⟩
  · rintro n s₃ ⟨i, O₃, σ₃, rfl, hi, st₃, J₃, x₃, L₃, hO₃, hP₃, hE₃⟩
    have keep3 : ∀ {h' : Heap} {tk : Nat}, (∀ b o, b ∉ [I] → s₃.heap.get? b = some o → h'.get? b = some o) → s₃.toks ≤ tk → Ext O s O₃ { s₃ with heap := h', toks := tk } := fun {h' tk} kk htk =>
      ⟨by obtain ⟨h₀, tk₀, e₀, ht₀⟩ := x₃.same; exact ⟨h', tk, by rw [e₀], Nat.le_trans ht₀ (by rw [e₀] at htk; exact htk)⟩, fun a o ha e => kk a o (fun q => by simp at q; subst q; rw [t.fresh] at e; cases e) (x₃.keep a o ha e), x₃.own⟩
    by_cases hlt : i < ds.length
    · refine wpAny_with_toks (n := s₃.toks) (Nat.le_refl _) (W.item i s₃ _ _ hlt st₃ fun v h₄ tk₄ pv st₄ k₄ ht₄ => ?_)
      have J₄ : Inv B O₃ (I :: Hd) env σ₃ { s₃ with heap := h₄, toks := tk₄ } := J₃.mutHd hf nHd ⟨_, _, rfl, ht₄⟩ (hI _ _ st₄) fun b o hb e => k₄ b o (by simpa using hb) e
      have hd : ds[i]? = some ds[i] := by simp [hlt]
      have r₃ := hP₃ i v _ pv hd
      have key : ∀ a o, a ∉ O₃ ++ I :: Hd → s₃.heap.get? a = some o → h₄.get? a = some o ∧ a ∉ O₃ ++ I :: Hd := fun a o ha e => ⟨k₄ a o (fun q => ha (by simp at q; subst q; simp)) e, ha⟩
      have r₄ : Rep h₄ (O₃ ++ I :: Hd) ds[i] v := r₃.mono key
      refine hgo (i + 1) _ v target _ _ st₄ ?_
      rw [List.drop_eq_getElem_cons hlt] at L₃
      obtain ⟨σ₅, wa, ws⟩ := L₃
      refine wpAny_mono (wa O₃ (I :: Hd) _ v J₄ r₄) (fun _ s₅ ⟨x₅, J₅⟩ => ?_) fun _ _ f => f.elim
      refine wpAny_mono (ws O₃ (I :: Hd) s₅ J₅) (fun f s₆ ⟨O₆, o, σ₆, x₆, J₆, fl, q⟩ => ?_) fun _ _ f => f.elim
      have x46 : Ext O₃ { s₃ with heap := h₄, toks := tk₄ } O₆ s₆ := x₅.trans x₆
      have xall : Ext O s O₆ s₆ := (keep3 k₄ ht₄).trans x46
      have again : LoopP prog w B A env target body Q (ds.drop (i + 1)) σ₆ → ∃ m, m < ds.length + 1 - i ∧ ∃ i' O' σ', m = ds.length + 1 - i' ∧ i' ≤ ds.length ∧ St i' s₆.heap ∧ Inv B O' (I :: Hd) env σ' s₆ ∧ Ext O s O' s₆ ∧
          LoopP prog w B A env target body Q (ds.drop i') σ' ∧ (∀ b ∈ fp, b ∉ O') ∧ (∀ i v d, P i v → ds[i]? = some d → Rep s₆.heap (O' ++ I :: Hd) d v) ∧ (∀ b ∈ fp, ∃ o, s₆.heap.get? b = some o) := fun L₆ => by
        have hfpo : ∀ b ∈ fp, ∃ o, h₄.get? b = some o := fun b hb => by
          obtain ⟨o, ho⟩ := hE₃ b hb
          by_cases hbI : b = I
          · subst hbI; exact hI _ _ st₄
          · exact ⟨o, k₄ b o (by simpa using hbI) ho⟩
        refine ⟨ds.length + 1 - (i + 1), by omega, i + 1, O₆, σ₆, rfl, by omega, ?_, J₆, xall, L₆, ?_, ?_, ?_⟩
        · exact W.frame _ _ _ st₄ fun b hb o e => x46.keep b o (hO₃ b hb) e
        · intro b hb q
          rcases x46.own b q with h1 | h1
          · exact hO₃ b hb h1
          · obtain ⟨o, ho⟩ := hfpo b hb; rw [ho] at h1; cases h1
        · intro j u d pu hd
          refine (hP₃ j u d pu hd).mono fun a o ha e => ?_
          have h4 := key a o ha e
          refine ⟨x46.keep a o (fun q => ha (List.mem_append_left _ q)) h4.1, fun q => ?_⟩
          rcases List.mem_append.mp q with q | q
          · rcases x46.own a q with h1 | h1
            · exact ha (List.mem_append_left _ h1)
            · have h4' := h4.1
              rw [show h₄.get? a = ({ s₃ with heap := h₄, toks := tk₄ } : Shared).heap.get? a from rfl, h1] at h4'; cases h4'
          · exact ha (List.mem_append_right _ q)
        · intro b hb
          obtain ⟨o, ho⟩ := hfpo b hb
          exact ⟨o, x46.keep b o (hO₃ b hb) ho⟩
      cases o with
      | next => cases fl; exact again q
      | cont => cases fl; exact again q
      | brk => cases fl; exact ⟨O₆, .next, σ₆, xall, J₆.unhold hf nHd ⟨s₆.heap, s₆.toks, rfl, Nat.le_refl _⟩ fun b o _ e => e, rfl, q⟩
      | ret d =>
        obtain ⟨v, rfl, r⟩ := fl
        refine ⟨O₆, .ret d, σ₆, xall, J₆.unhold hf nHd ⟨s₆.heap, s₆.toks, rfl, Nat.le_refl _⟩ fun b o _ e => e, ⟨v, rfl, r.mono fun a o ha e => ⟨e, fun q => ha ?_⟩⟩, q⟩
        rcases List.mem_append.mp q with q | q
        · exact List.mem_append_left _ q
        · exact List.mem_append_right _ (List.mem_cons_of_mem _ q)
    · have hi' : i = ds.length := by omega
      subst hi'
      refine wpAny_with_toks (n := s₃.toks) (Nat.le_refl _) (W.done s₃ _ _ st₃ fun h₄ tk₄ k₄ ht₄ => ?_)
      rw [List.drop_of_length_le (Nat.le_refl _)] at L₃
      refine wpAny_execs_nil ⟨O₃, .next, σ₃, keep3 k₄ ht₄, J₃.unhold hf nHd ⟨_, _, rfl, ht₄⟩ fun b o hb e => k₄ b o (by simpa using hb) e, rfl, L₃⟩
  · intro i v d pv hd
    refine (hP i v d pv hd).mono fun a o ha e => ⟨e, fun q => ha ?_⟩
    rcases List.mem_append.mp q with q | q
    · exact List.mem_cons_of_mem _ (List.mem_append_left _ q)
    · rcases List.mem_cons.mp q with q | q
      · subst q; simp
      · exact List.mem_cons_of_mem _ (List.mem_append_right _ q)
end
end Mine

end
section
open PySem PySem.W PySem.Calls PyProof.Rows
namespace Mine

noncomputable def OwnOnly (x : Str) (σ : Store) : Prop := ∀ y ds, σ y = some (.own ds) → y = x
noncomputable def NoOwn (σ : Store) : Prop := ∀ y ds, σ y ≠ some (.own ds)
theorem NoOwn.only {σ : Store} (h : NoOwn σ) (x : Str) : OwnOnly x σ := fun y ds e => absurd e (h y ds)
theorem NoOwn.set {σ : Store} (h : NoOwn σ) (x : Str) (d : D) : NoOwn (σ.set x (.dat d)) := fun y ds e => by
  unfold Store.set at e; split at e
  · cases e
  · exact h y ds e
theorem OwnOnly.set {σ : Store} {x : Str} (h : OwnOnly x σ) (y : Str) (d : D) : OwnOnly x (σ.set y (.dat d)) := fun z ds e => by
  unfold Store.set at e; split at e
  · cases e
  · exact h z ds e
theorem OwnOnly.set' {σ : Store} {x : Str} (h : OwnOnly x σ) (sl : Slot) : OwnOnly x (σ.set x sl) := fun z ds e => by
  unfold Store.set at e; split at e
  · rename_i q; exact q
  · exact h z ds e
theorem OwnOnly.frozen {σ : Store} {x : Str} (h : OwnOnly x σ) (d : D) : NoOwn (σ.set x (.dat d)) := fun z ds e => by
  unfold Store.set at e; split at e
  · cases e
  · rename_i q; exact q (h z ds e)

section
variable {prog : Program} {w : World} {B : Shared} {A : Around} {env : Env} {σ : Store}

/-- a new object that the frame takes for its own -/
theorem Inv.adopt {O Hd : List Addr} {s : Shared} (J : Inv B O Hd env σ s) (o : Obj) (ho : o.isFreed = false) : Inv B (s.heap.objs.size :: O) Hd env σ { s with heap := s.heap.push o } := by
  have fr := J.lives.fresh
  have k := Kp.push s o
  have J' := J.keeps k
  have key : ∀ a o', a ∉ O ++ Hd → s.heap.get? a = some o' → (s.heap.push o).get? a = some o' ∧ a ∉ s.heap.objs.size :: O ++ Hd := fun a o' ha e => ⟨k.get a o' e, fun q => by
    rcases List.mem_cons.mp q with q | q
    · subst q; exact absurd (Heap.lt_size e) (Nat.lt_irrefl _)
    · exact ha q⟩
  obtain ⟨m, cm, ns, cs, vs⟩ := J.vars
  refine ⟨J'.same, fun b o e => key b o (J.base b o e).2 (J.base b o e).1, fun a ha => ?_, fun a ha q => ?_, J.kind, J.glob, J.blt, List.mem_cons_of_mem _ J.loc, fun hf x c e => List.mem_cons_of_mem _ (J.cellIn hf x c e), J.cellNe, J.cellInj,
    ⟨m, cm, ns.keeps k.get, fun x c e => (cs x c e).keeps k.get, fun x sl e => ?_⟩, J.one⟩
  · rcases List.mem_cons.mp ha with q | q
    · subst q; exact ⟨o, Heap.get?_push_size _ ho⟩
    · exact J'.live a q
  · rcases List.mem_cons.mp ha with z | z
    · subst z; exact fr (List.mem_append_right _ q)
    · exact J.disj a z q
  · obtain ⟨v, h1, h2⟩ := vs x sl e
    refine ⟨v, h1, ?_⟩
    cases sl with
    | dat d => exact Rep.mono key h2
    | own ds => obtain ⟨a, ws, h3, h4, h5, h6, h7, h8⟩ := h2; exact ⟨a, ws, h3, List.mem_cons_of_mem _ h4, h5, h6, h7.at fun o e => k.get _ o e, h8.mono key⟩

theorem store_own {O Hd : List Addr} {s : Shared} {x : Str} {ds : List D} {vs : List Value} {Q : Unit → Shared → Prop} {E : Value → Shared → Prop} {M : Model} (hx : canStore env x) (ho : OwnOnly x σ) (J : Inv B O Hd env σ s) (rs : Reps s.heap (O ++ Hd) ds vs)
    (h : ∀ s', Ext O s (s.heap.objs.size :: O) s' → Inv B (s.heap.objs.size :: O) Hd env (σ.set x (.own ds)) s' → Q () s') :
    wpAny M A (storeName env x (.ref s.heap.objs.size)) Q E { s with heap := s.heap.push { cls := .type "list", data := .seq vs.toArray } } := by
  have J₁ := J.adopt { cls := .type "list", data := .seq vs.toArray } rfl
  have key : ∀ a o', a ∉ O ++ Hd → s.heap.get? a = some o' → (s.heap.push { cls := .type "list", data := .seq vs.toArray }).get? a = some o' ∧ a ∉ s.heap.objs.size :: O ++ Hd := fun a o' ha e => ⟨Heap.get?_push_of_some _ e, fun q => by
    rcases List.mem_cons.mp q with q | q
    · subst q; exact absurd (Heap.lt_size e) (Nat.lt_irrefl _)
    · exact ha q⟩
  obtain ⟨m, cm, ns, cs, _⟩ := J.vars
  refine J₁.storeS (sl₀ := .own ds) hx ⟨s.heap.objs.size, vs, rfl, by simp, ?_, ?_, ⟨0, Heap.get?_push_size _ rfl⟩, rs.mono key⟩ ?_ fun s' x' i' => h s' ?_ i'
  · exact Nat.ne_of_gt ns.lt
  · exact fun y c e => Nat.ne_of_gt (cs y c e).lt
  · intro y z ds' es h1 h2
    exact (ho.set' (.own ds) y ds' h1).trans (ho.set' (.own ds) z es h2).symm
  · have k := Kp.push s ({ cls := .type "list", data := .seq vs.toArray } : Obj)
    obtain ⟨h', tk, e, ht⟩ := x'.same
    refine ⟨⟨h', tk, by rw [e], ht⟩, fun a o ha e => x'.keep a o (fun q => ?_) (k.get a o e), fun a ha => ?_⟩
    · rcases List.mem_cons.mp q with q | q
      · subst q; exact absurd (Heap.lt_size e) (Nat.lt_irrefl _)
      · exact ha q
    · rcases List.mem_cons.mp ha with q | q
      · subst q
        right
        cases e : s.heap.get? s.heap.objs.size with
        | none => rfl
        | some o => exact absurd (Heap.lt_size e) (Nat.lt_irrefl _)
      · exact .inl q

/-- x = [..], to be appended to -/
theorem WX_assign_own {x : Str} {pos' lpos pos : Pos} {es : List Expr} {Q : Out → Store → Prop} (hx : canStore env x) (ho : OwnOnly x σ)
    (h : WEs prog w B A env σ es (fun ds => ds.length ≤ 2 ^ 24 ∧ Q .next (σ.set x (.own ds)))) (hn : noStar es = true := by rfl)
    (hs : swapsWith (.List es lpos) (some (.Name x pos')) pos.line env = pure false := by rfl) : WX prog w B A env σ (.Assign [.Name x pos'] (.List es lpos) pos) Q := fun O Hd s I => by
  refine wpAny_Assign_Name (List_ (wpAny_mono (WEs.wp es _ s hn h I) (fun vs s₁ ⟨k₁, ds, rs, hsz, q⟩ => ?_) fun _ _ f => f)) hs
  refine wpAny_newObj_type ?_ (by show vs.toArray.size ≤ sizeLine; rw [List.size_toArray, rs.length]; exact hsz)
  exact store_own hx ho (I.keeps k₁) rs fun s' x' i' => ⟨_, .next, _, (Ext.of k₁).trans x', i', rfl, q⟩

/-- the list that was built is data from here on -/
theorem Inv.freeze {O Hd : List Addr} {s : Shared} (J : Inv B O Hd env σ s) {x : Str} {ds : List D} (hx : σ x = some (.own ds)) (hf : env.func.isSome = true) : ∃ O', (∀ a ∈ O', a ∈ O) ∧ Inv B O' Hd env (σ.set x (.dat (.lst ds))) s := by
  obtain ⟨m, cm, ns, cs, vs⟩ := J.vars
  obtain ⟨v, hv, a, ws, h3, h4, h5, h6, h7, h8⟩ := vs x _ hx
  have sub : ∀ b, b ∈ O.filter (· != a) → b ∈ O := fun b hb => (List.mem_filter.mp hb).1
  have subX : ∀ b, b ∉ O ++ Hd → b ∉ O.filter (· != a) ++ Hd := fun b hb q => hb (by
    rcases List.mem_append.mp q with q | q
    · exact List.mem_append_left _ (sub b q)
    · exact List.mem_append_right _ q)
  have key : ∀ b o, b ∉ O ++ Hd → s.heap.get? b = some o → s.heap.get? b = some o ∧ b ∉ O.filter (· != a) ++ Hd := fun b o hb e => ⟨e, subX b hb⟩
  refine ⟨O.filter (· != a), sub, J.same, fun b o e => ⟨(J.base b o e).1, subX b (J.base b o e).2⟩, fun b hb => J.live b ?_, fun b hb => J.disj b (sub b hb), J.kind, J.glob, J.blt, ?_, fun hf y c e => ?_, J.cellNe, J.cellInj, ⟨m, cm, ns, cs, fun y sl e => ?_⟩, ?_⟩
  · rcases List.mem_append.mp hb with q | q
    · exact List.mem_append_left _ (sub b q)
    · exact List.mem_append_right _ q
  · exact List.mem_filter.mpr ⟨J.loc, by simpa using Ne.symm h5⟩
  · exact List.mem_filter.mpr ⟨J.cellIn hf y c e, by simpa using Ne.symm (h6 y c e)⟩
  · unfold Store.set at e
    by_cases q : y = x
    · rw [if_pos q] at e; cases e; subst q
      refine ⟨v, hv, ?_⟩
      subst h3
      refine rep_lst ?_ h7 (h8.mono key)
      intro z
      rcases List.mem_append.mp z with z | z
      · have := (List.mem_filter.mp z).2; simp at this
      · exact J.disj a h4 z
    · rw [if_neg q] at e
      obtain ⟨v', h1, h2⟩ := vs y sl e
      refine ⟨v', h1, ?_⟩
      cases sl with
      | dat d => exact Rep.mono key h2
      | own es => exact absurd (J.one y x es ds e hx) q
  · intro y z ds' es h1 h2
    have := OwnOnly.frozen (x := x) (σ := σ) (fun y ds' e => J.one y x ds' ds e hx) (.lst ds) y ds'
    exact absurd h1 this

theorem WS_freeze {x : Str} {ds : List D} {b : List Stmt} {Q : Out → Store → Prop} (hf : env.func.isSome = true) (hx : σ x = some (.own ds)) (h : WS prog w B A env (σ.set x (.dat (.lst ds))) b Q) : WS prog w B A env σ b Q := fun O Hd s J => by
  obtain ⟨O', hO, J'⟩ := J.freeze hx hf
  refine wpAny_mono (h O' Hd s J') (fun f s' ⟨O₁, o, σ₁, x₁, i₁, fl, q⟩ => ⟨O₁, o, σ₁, ⟨x₁.same, fun a o ha e => x₁.keep a o (fun z => ha (hO a z)) e, fun a ha => ?_⟩, i₁, fl, q⟩) fun _ _ f => f
  rcases x₁.own a ha with z | z
  · exact .inl (hO a z)
  · exact .inr z

theorem Inv.append {O Hd : List Addr} {s : Shared} (J : Inv B O Hd env σ s) {x : Str} {ds : List D} {d : D} {v : Value} {a : Addr} {ws : List Value} (hx : σ x = some (.own ds)) (hf : env.func.isSome = true)
    (ha : a ∈ O) (hL : a ≠ env.locals) (hC : ∀ y c, env.cells.lookup y = some c → a ≠ c) (hv : ∀ m cm u, s.heap.Ns env.locals m → (∀ x c, env.cells.lookup x = some c → s.heap.IsCell c (cm x)) → Holds env m cm x u → u = .ref a)
    (r : Rep s.heap (O ++ Hd) d v) (rs : Reps s.heap (O ++ Hd) ds ws) {h' : Heap} (hl : h'.PlainList a (ws ++ [v]).toArray) (hs : Heap.SameBut a s.heap h') : Ext O s O { s with heap := h' } ∧ Inv B O Hd env (σ.set x (.own (ds ++ [d]))) { s with heap := h' } := by
  obtain ⟨m, cm, ns, cs, vs⟩ := J.vars
  obtain ⟨n, ho⟩ := id hl
  obtain ⟨k1, k2, k3, k4, k5⟩ := J.after (tk := s.toks) ha hs ⟨_, ho⟩ (Nat.le_refl _)
  refine ⟨k3, ?_, k4, k5, J.disj, J.kind, J.glob, J.blt, J.loc, J.cellIn, J.cellNe, J.cellInj, ⟨m, cm, ns.sameBut hs (Ne.symm hL), fun y c e => (cs y c e).sameBut hs (Ne.symm (hC y c e)), fun y sl e => ?_⟩, ?_⟩
  · obtain ⟨h₀, tk, hs₀, h0⟩ := J.same; exact ⟨h', s.toks, by rw [hs₀], Nat.pos_of_ne_zero J.pos⟩
  · unfold Store.set at e
    by_cases q : y = x
    · rw [if_pos q] at e; cases e; subst q
      obtain ⟨u, h1, _⟩ := vs y _ hx
      refine ⟨u, h1, a, ws ++ [v], hv m cm u ns cs h1, ha, hL, hC, hl, ?_⟩
      exact k2 _ _ (rs.append (Reps.one r))
    · rw [if_neg q] at e
      obtain ⟨v', h1, h2⟩ := vs y sl e
      refine ⟨v', h1, ?_⟩
      cases sl with
      | dat d => exact k1 _ _ h2
      | own es => exact absurd (J.one y x es ds e hx) q
  · intro y z ds' es h1 h2
    have o : OwnOnly x σ := fun y ds' e => J.one y x ds' ds e hx
    exact (o.set' _ y ds' h1).trans (o.set' _ z es h2).symm

theorem Inv.value {O Hd : List Addr} {s : Shared} (J : Inv B O Hd env σ s) {x : Str} {m cm m' cm' : Str → Option Value} {u v : Value} (ns : s.heap.Ns env.locals m) (ns' : s.heap.Ns env.locals m')
    (cs : ∀ x c, env.cells.lookup x = some c → s.heap.IsCell c (cm x)) (cs' : ∀ x c, env.cells.lookup x = some c → s.heap.IsCell c (cm' x)) (h : Holds env m cm x u) (h' : Holds env m' cm' x v) : u = v := by
  unfold Holds at h h'
  have hm : m x = m' x := by
    obtain ⟨o, es, ep, ho, hd, _, hf⟩ := ns
    obtain ⟨o', es', ep', ho', hd', _, hf'⟩ := ns'
    rw [ho] at ho'; cases ho'
    rw [hd] at hd'; cases hd'
    rw [← hf, ← hf']
  have hc : (env.cells.lookup x).isSome = true → cm x = cm' x := fun q => by
    obtain ⟨c, hc⟩ := Option.isSome_iff_exists.mp q
    obtain ⟨o, ho, hd⟩ := cs x c hc
    obtain ⟨o', ho', hd'⟩ := cs' x c hc
    rw [ho] at ho'; cases ho'
    rw [hd] at hd'; exact Data.cell.inj hd'
  split at h
  · rename_i hk
    rw [hk] at h'
    rw [hm, h'] at h; cases h; rfl
  · rename_i hk
    rw [hk] at h'
    have e := hc h.1
    rw [h.2, h'.2] at e; cases e; rfl
  · rename_i hk
    rw [hk] at h'
    have e := hc h.1
    rw [h.2, h'.2] at e; cases e; rfl
  · exact h.elim

theorem WX_append {x : Str} {p apos cpos epos : Pos} {e : Expr} {ds : List D} {Q : Out → Store → Prop} (hf : env.func.isSome = true) (hx : σ x = some (.own ds)) (hsz : ds.length ≤ 2 ^ 24)
    (h : WE prog w B A env σ e (fun d => Q .next (σ.set x (.own (ds ++ [d]))))) (hns : noStar [e] = true := by rfl)
    (hint : interactive env = false := by rfl)
    (hsw : swapsWith (.Call (.Attribute (.Name x p) "append" apos) [e] [] cpos) none epos.line env = pure false := by rfl)
    (hbase : attributeBase (.Name x p) "append" env (eval (.Name x p) env) = eval (.Name x p) env := by rfl)
    (hline : (apos.endLine == cpos.line) = true := by rfl)
    (hd : (x == ("__debug__" : Str)) = false := by decide) (hn : (x == ("__classdict__" : Str)) = false := by decide) :
    WX prog w B A env σ (.Expr (.Call (.Attribute (.Name x p) "append" apos) [e] [] cpos) epos) Q := fun O Hd s J => by
  refine wpAny_Expr ?_ hint hsw
  have htrees : backTo cpos (starEach [e] env) = [(false, eval e env)] := by rw [(starEach_plain (env := env) hns).1]; rfl
  refine wpAny_Call_method1_late hbase hline htrees ?_
  refine wpAny_Name ?_ hd
  obtain ⟨m₀, cm₀, ns₀, cs₀, vs₀⟩ := J.vars
  obtain ⟨v₀, hv₀, a, ws, rfl, ha, hL, hC, hl, hr⟩ := vs₀ x _ hx
  have ld : ∀ {Q' : Value → Shared → Prop} {E' : Value → Shared → Prop}, Q' (.ref a) s → wpAny (model prog w) A (loadName env x) Q' E' s := fun {Q' E'} q => by
    unfold Holds at hv₀
    split at hv₀
    · rename_i hk
      exact wpAny_loadName_local J.kind hk ns₀ hv₀ q
    · rename_i hk
      obtain ⟨c, hc⟩ := Option.isSome_iff_exists.mp hv₀.1
      exact wpAny_loadName_cell J.kind hk hc (hv₀.2 ▸ cs₀ x c hc) q
    · rename_i hk
      obtain ⟨c, hc⟩ := Option.isSome_iff_exists.mp hv₀.1
      exact wpAny_loadName_free J.kind hk hc (hv₀.2 ▸ cs₀ x c hc) q hn
    · exact hv₀.elim
  refine ld ?_
  obtain ⟨n, hol⟩ := id hl
  refine ⟨"list", "list.append", F.plainAttrs_list, F.slot_list_append, F.type_list_append, hl.isList.typeIs, fun b e => by cases e; exact ⟨_, hol, rfl⟩, ?_⟩
  refine callWith_builtin rfl (evalArgs_plain (spliced_cons (wpAny_mono (h O Hd s J) (fun v s₁ ⟨k₁, d, r, q⟩ => spliced_nil ?_) fun _ _ f => f.elim)))
  have J₁ := J.keeps k₁
  have hl₁ := hl.at (h' := s₁.heap) fun o e => k₁.get _ o e
  have hr₁ := hr.keeps k₁.get
  refine wpAny_list_append_plain hl₁ (fun h' hp hs => ?_) (by rw [List.size_toArray, hr.length]; exact hsz)
  have e : ws.toArray.push v = (ws ++ [v]).toArray := by simp
  rw [e] at hp
  obtain ⟨x', i'⟩ := J₁.append (d := d) hx hf ha hL hC (fun m cm u ns cs hh => (J₁.value ns (ns₀.keeps k₁.get) cs (fun y c e => (cs₀ y c e).keeps k₁.get) hh hv₀)) r hr₁ hp hs
  exact ⟨O, .next, _, (Ext.of k₁).trans x', i', rfl, q⟩

end
end Mine

end
section
open PySem PySem.W PySem.Calls PyProof.Rows
namespace Mine

section
variable {prog : Program} {w : World} {B : Shared} {A : Around} {env : Env} {σ : Store}

-- a call of a def of the module
noncomputable def paramsAre (names : List Str) (args : List D) : Store := setAll (fun _ => none) names args

theorem binds_hold {h : Heap} {X : List Addr} : ∀ (xs : List Str) (ds : List D) (vs : List Value) (σ : Store) (m cm : Str → Option Value), ds.length = xs.length → Reps h X ds vs →
    (∀ x ∈ xs, env.kindOf x = some .local ∨ (env.kindOf x = some .cell ∧ (env.cells.lookup x).isSome = true)) →
    (∀ x sl, σ x = some sl → ∃ d v, sl = .dat d ∧ Holds env m cm x v ∧ Rep h X d v) →
    ∀ x sl, setAll σ xs ds x = some sl → ∃ d v, sl = .dat d ∧ Holds env (bindL env.kindOf (xs.zip vs) m) (bindC env.kindOf (xs.zip vs) cm) x v ∧ Rep h X d v
  | [], [], vs, σ, m, cm, _, _, _, hσ => by simpa [setAll, bindL, bindC] using hσ
  | [], _ :: _, vs, σ, m, cm, hl, _, _, _ => by simp at hl
  | _ :: _, [], vs, σ, m, cm, hl, _, _, _ => by simp at hl
  | x :: xs, d :: ds, vs, σ, m, cm, hl, ⟨v, vs', e, r, rs⟩, hk, hσ => by
    subst e
    simp only [List.zip_cons_cons, setAll, bindL, bindC]
    refine binds_hold xs ds vs' _ _ _ (by simpa using hl) rs (fun y hy => hk y (by simp [hy])) fun y sl hy => ?_
    unfold Store.set at hy
    rcases hk x (by simp) with hx | ⟨hx, hc⟩
    · rw [if_pos hx, if_pos hx]
      by_cases q : y = x
      · rw [if_pos q] at hy; cases hy
        refine ⟨d, v, rfl, ?_, r⟩
        unfold Holds; rw [q, hx]; simp
      · rw [if_neg q] at hy
        obtain ⟨d', v', h1, h2, h3⟩ := hσ y sl hy
        refine ⟨d', v', h1, ?_, h3⟩
        unfold Holds at h2 ⊢
        split <;> simp_all
    · have hnl : ¬ env.kindOf x = some .local := by rw [hx]; decide
      rw [if_neg hnl, if_neg hnl]
      by_cases q : y = x
      · rw [if_pos q] at hy; cases hy
        refine ⟨d, v, rfl, ?_, r⟩
        unfold Holds; rw [q, hx]; simp [hc]
      · rw [if_neg q] at hy
        obtain ⟨d', v', h1, h2, h3⟩ := hσ y sl hy
        refine ⟨d', v', h1, ?_, h3⟩
        unfold Holds at h2 ⊢
        split <;> simp_all

theorem Inv.start {fd : FuncData} {X : List Addr} {s s₁ : Shared} {f : Addr} {names : List Str} {args : List D} {vals : List Value} (g : Grd B X s)
    (hgl : fd.globals = mainGlobals) (hbl : fd.builtins = builtinsNs) (hk : fd.scope.kind = .function)
    (x : InCallC s (callEnvC fd s.heap.objs.size f).locals (bindL (callEnvC fd s.heap.objs.size f).kindOf (names.zip vals) fun _ => none) (callEnvC fd s.heap.objs.size f).cells
        (bindC (callEnvC fd s.heap.objs.size f).kindOf (names.zip vals) fun _ => none) s₁)
    (hkind : ∀ y ∈ names, (callEnvC fd s.heap.objs.size f).kindOf y = some .local ∨ ((callEnvC fd s.heap.objs.size f).kindOf y = some .cell ∧ ((callEnvC fd s.heap.objs.size f).cells.lookup y).isSome = true))
    (hl : args.length = names.length) (r : Reps s.heap X args vals) (hnd : ((cellsFrom 0 fd.scope.names []).map (·.1)).Nodup) (ht : s.toks ≤ s₁.toks) :
    Inv B (s.heap.objs.size :: (callEnvC fd s.heap.objs.size f).cells.map (·.2)) X (callEnvC fd s.heap.objs.size f) (paramsAre names args) s₁ := by
  have k := x.toInCall.keep
  have new : ∀ a, a ∈ s.heap.objs.size :: (callEnvC fd s.heap.objs.size f).cells.map (·.2) → s.heap.objs.size ≤ a := fun a ha => by
    rcases List.mem_cons.mp ha with q | q
    · exact Nat.le_of_eq q.symm
    · obtain ⟨⟨n, c⟩, h1, h2⟩ := List.mem_map.mp q
      subst h2
      exact Nat.le_of_lt (x.above n c h1)
  have key : ∀ a o, a ∉ X → s.heap.get? a = some o → s₁.heap.get? a = some o ∧ a ∉ (s.heap.objs.size :: (callEnvC fd s.heap.objs.size f).cells.map (·.2)) ++ X := fun a o ha e => ⟨k a o e, fun q => by
    rcases List.mem_append.mp q with q | q
    · exact absurd (Heap.lt_size e) (Nat.not_lt.mpr (new a q))
    · exact ha q⟩
  have cellAt : ∀ n c, (callEnvC fd s.heap.objs.size f).cells.lookup n = some c → (n, c) ∈ (callEnvC fd s.heap.objs.size f).cells := fun n c e => PySem.mem_of_lookup e
  refine ⟨?_, fun b o e => key b o (g.base b o e).2 (g.base b o e).1, fun a ha => ?_, fun a ha q => ?_, hk, hgl, hbl, List.mem_cons_self, fun _ y c e => List.mem_cons_of_mem _ (List.mem_map.mpr ⟨_, cellAt y c e, rfl⟩), fun y c e => Nat.ne_of_gt (x.above y c (cellAt y c e)),
    fun y z c e e' => name_of_addr x.apart (cellAt y c e) (cellAt z c e'), ⟨_, _, x.toInCall.ns, x.cell, fun y sl e => ?_⟩, fun y z ds es e => ?_⟩
  · obtain ⟨h, tk, e⟩ := x.toInCall.same; obtain ⟨h₀, tk₀, e₀, h0⟩ := g.same; exact ⟨h, tk, by rw [e, e₀], by subst e; exact Nat.lt_of_lt_of_le (Nat.pos_of_ne_zero g.live.pos) ht⟩
  · rcases List.mem_append.mp ha with q | q
    · rcases List.mem_cons.mp q with q | q
      · obtain ⟨o, _, _, ho, _⟩ := x.toInCall.ns; subst q; exact ⟨o, ho⟩
      · obtain ⟨⟨n, c⟩, h1, h2⟩ := List.mem_map.mp q
        subst h2
        have e : (callEnvC fd s.heap.objs.size f).cells.lookup n = some c := lookup_of_mem_nodup (cellsFrom_names fd.scope.names 0 (s.heap.objs.size + 1) [] [] rfl ▸ hnd) h1
        obtain ⟨o, ho, _⟩ := x.cell n c e
        exact ⟨o, ho⟩
    · obtain ⟨o, ho⟩ := g.live.at_ a q; exact ⟨o, k a o ho⟩
  · obtain ⟨o, ho⟩ := g.live.at_ a q; exact absurd (Heap.lt_size ho) (Nat.not_lt.mpr (new a ha))
  · obtain ⟨d, v, h1, h2, h3⟩ := binds_hold (env := callEnvC fd s.heap.objs.size f) names args vals (fun _ => none) (fun _ => none) (fun _ => none) hl r hkind (fun _ _ e => by cases e) y sl e
    subst h1
    exact ⟨v, h2, Rep.mono key h3⟩
  · obtain ⟨d, v, h1, _⟩ := binds_hold (env := callEnvC fd s.heap.objs.size f) names args vals (fun _ => none) (fun _ => none) (fun _ => none) hl r hkind (fun _ _ e => by cases e) y _ e
    cases h1

theorem WC_def {mg mb : Str → Option Value} (G : Base B mg mb) {x : Str} {f : Addr} {fd : FuncData} (H : FnAt B mg x f fd) {names : List Str} {args : List D} {body : List Stmt} {Q : D → Prop}
    (hroom : A.depth < recursionLimit) (hbody : fd.body = .stmts body) (hclo : fd.closure = []) (hgl : fd.globals = mainGlobals) (hbl : fd.builtins = builtinsNs)
    (hco : fd.scope.isCoroutine = false) (hgen : fd.scope.isGenerator = false) (hk : fd.scope.kind = .function) (hnd : ((cellsFrom 0 fd.scope.names []).map (·.1)).Nodup)
    (hl : args.length = names.length) (hbind : ∀ vals : List Value, vals.length = names.length → bindArgs fd ⟨vals, []⟩ = pure (names.zip vals))
    (hkind : ∀ L, ∀ y ∈ names, (callEnvC fd L f).kindOf y = some .local ∨ ((callEnvC fd L f).kindOf y = some .cell ∧ ((callEnvC fd L f).cells.lookup y).isSome = true))
    (h : ∀ L, WS prog w B (A.deeper (callEnvC fd L f)) (callEnvC fd L f) (paramsAre names args) body (fun o _ => match o with | .ret d => Q d | _ => False)) : WC prog w B A (.ref f) args Q := fun X s vals g r => by
  obtain ⟨o, ho, hdat⟩ := H.obj
  have hk' : ∀ b o, B.heap.get? b = some o → s.heap.get? b = some o := fun b o e => (g.base b o e).1
  refine wpAny_call (codeAny_call_function hroom (hk' _ _ ho) hdat hco hgen hbody (H.code.keeps hk') ?_)
  rw [hbind vals (by rw [r.length, hl]), hclo]
  refine wpAny_pure (wpAny_with_toks (n := s.toks) (Nat.le_refl _) (wpAny_newFunctionEnv_cells hk ?_ fun env he s₁ x ht => ?_))
  · intro y hy
    have hy' : y.1 ∈ names := (List.of_mem_zip (a := y.1) (b := y.2) hy).1
    exact hkind s.heap.objs.size y.1 hy'
  · subst he
    refine ⟨(G.nolimit.keeps hk').keeps x.toInCall.keep, codeAny_func ?_⟩
    have J := Inv.start (B := B) g hgl hbl hk x (hkind s.heap.objs.size) hl r hnd ht
    refine wpAny_mono (h s.heap.objs.size _ X s₁ J) (fun fl s' ⟨O', o, σ', x', i', fl', q⟩ => ?_) fun _ _ f => f.elim
    have kp : Kp s s' := by
      obtain ⟨h₁, tk₁, e₁⟩ := x.toInCall.same
      obtain ⟨h₂, tk₂, e₂, ht₂⟩ := x'.same
      refine ⟨⟨h₂, tk₂, by rw [e₂, e₁], Nat.le_trans ht ht₂⟩, fun b o e => x'.keep b o (fun hb => ?_) (x.toInCall.keep b o e)⟩
      rcases List.mem_cons.mp hb with q | q
      · subst q; exact absurd (Heap.lt_size e) (Nat.lt_irrefl _)
      · obtain ⟨⟨n, c⟩, h1, h2⟩ := List.mem_map.mp q
        have := x.above n c h1
        simp only at h2
        subst h2
        exact absurd (Heap.lt_size e) (Nat.not_lt.mpr (Nat.le_of_lt this))
    cases o with
    | ret d =>
      obtain ⟨v, rfl, rv⟩ := fl'
      exact ⟨kp, d, rv.mono fun a o ha e => ⟨e, fun z => ha (List.mem_append_right _ z)⟩, q⟩
    | _ => exact q.elim

-- ranges
noncomputable def rangeD (a b c : Int) : List D := (List.range (Builtin.Range.rangeSize a b c).toNat).map fun (i : Nat) => D.int (a + i * c)

theorem iter_range {X : List Addr} {s : Shared} {r : Addr} {a b c : Int} {t u v : Tok} (hA : A.handled = none) (l : Live X s) (hr : IsRange s.heap r a b c t u v) (hsm : Builtin.Range.small a b c = true) :
    wpAny (model prog w) A (pyIter (.ref r)) (fun it s' => Kp s s' ∧ ∃ I, it = .ref I ∧ It prog w A s X I (rangeD a b c) s') no s := by
  refine wpAny_pyIter_range hr hsm ?_
  have hn := rangeSize_toNat a b c
  have hlen : (rangeD a b c).length = (Builtin.Range.rangeSize a b c).toNat := by simp [rangeD]
  have W := Walks.range (prog := prog) (w := w) hA s.heap.objs.size a c (Builtin.Range.rangeSize a b c).toNat
  rw [← hlen] at W
  refine ⟨Kp.push _ _, _, rfl, ⟨[s.heap.objs.size], _, _, W, ?_, ?_, ?_, ?_, ?_, ?_⟩, ?_⟩
  · show IsRangeIter _ _ _ _ _
    rw [hlen, ← hn]
    simpa using Heap.get?_push_size _ rfl
  · intro b hb; simp at hb; subst hb; exact l.fresh
  · intro b hb; simp at hb; subst hb; exact ⟨_, Heap.get?_push_size _ rfl⟩
  · exact fun i h st => ⟨_, st⟩
  · rintro i v d ⟨t, rfl⟩ hd
    unfold rangeD at hd
    rw [List.getElem?_map] at hd
    cases hi : (List.range (Builtin.Range.rangeSize a b c).toNat)[i]? with
    | none => rw [hi] at hd; cases hd
    | some j =>
      rw [hi] at hd
      have : j = i := by
        have := List.getElem?_range (n := (Builtin.Range.rangeSize a b c).toNat) (i := i)
        by_cases h : i < (Builtin.Range.rangeSize a b c).toNat
        · rw [this h] at hi; cases hi; rfl
        · rw [List.getElem?_eq_none (by simpa using h)] at hi; cases hi
      subst this
      cases hd
      exact rep_int
  · intro i s' v target Q E st hq
    exact letOwned_ref (cls := "range_iterator") (l := rawInt _) (vs := [rawInt _, rawInt _]) ⟨_, st, rfl, rfl⟩ (fun _ => .inr (by decide)) hq
  · cases e : s.heap.get? s.heap.objs.size with
    | none => rfl
    | some o => exact absurd (Heap.lt_size e) (Nat.lt_irrefl _)

theorem small_of {a b c : Int} (ha : -(2 ^ 40) ≤ a ∧ a ≤ 2 ^ 40) (hb : -(2 ^ 40) ≤ b ∧ b ≤ 2 ^ 40) (hc : 1 ≤ c ∧ c ≤ 2 ^ 40) : Builtin.Range.small a b c = true := by
  have h1 := rangeSize_toNat a b c
  have h2 := rangeSize_toNat_le a b c
  have f : ∀ x : Int, -(2 ^ 62) ≤ x → x ≤ 2 ^ 62 → Builtin.Range.rangeFitsLong x = true := fun x h1 h2 => by
    simp [Builtin.Range.rangeFitsLong]; omega
  unfold Builtin.Range.small
  rw [f a (by omega) (by omega), f b (by omega) (by omega), f c (by omega) (by omega), f (Builtin.Range.rangeSize a b c) (by omega) (by omega)]
  rw [if_pos (by omega), f (b + (c - 1)) (by omega) (by omega)]
  simp

/-- range(..) as a loop's source -/
theorem WI_range {mg mb : Str → Option Value} (G : Base B mg mb) {p pos : Pos} {e : Expr} {args : List Expr} {Q : List D → Prop} (hA : A.handled = none)
    (hx : env.kindOf "range" = some .globalImplicit) (hm : mg "range" = none)
    (h : WEs prog w B A env σ (e :: args) (fun ds => ∃ a b c, (ds = [.int b] ∧ a = 0 ∧ c = 1 ∨ ds = [.int a, .int b] ∧ c = 1 ∨ ds = [.int a, .int b, .int c]) ∧ (-(2 ^ 40) ≤ a ∧ a ≤ 2 ^ 40) ∧ (-(2 ^ 40) ≤ b ∧ b ≤ 2 ^ 40) ∧ (1 ≤ c ∧ c ≤ 2 ^ 20) ∧ Q (rangeD a b c)))
    (hs : noStar (e :: args) = true := by rfl) : WI prog w B A env σ (.Call (.Name "range" p) (e :: args) [] pos) Q := fun O Hd s I => by
  refine Call_Name rfl (load_builtin G I hx hm (v := .type "range") (by with_unfolding_all rfl) ?_ (by decide) (by decide))
  refine callWith_type1 (wpAny_mono (WEs.wp (e :: args) _ s hs h I) (fun vs s₁ ⟨k₁, ds, rs, a, b, c, hd, ha, hb, hc, q⟩ => ?_) fun _ _ f => f.elim) (starEach_plain hs).1 (WEs.any args (starEach_plain (env := env) hs).2)
  have I₁ := I.keeps k₁
  have hsm := small_of ha hb (c := c) ⟨hc.1, by omega⟩
  have fin : ∀ (t u v : Tok) (tk : Nat), s₁.toks ≤ tk → wpAny (model prog w) A (pyIter (.ref s₁.heap.objs.size)) (fun it s₂ => Kp s s₂ ∧ ∃ I ds, it = .ref I ∧ It prog w A s (O ++ Hd) I ds s₂ ∧ Q ds) no
      { s₁ with heap := s₁.heap.push { cls := .type "range", data := .fields #[.int a t, .int b u, .int c v] }, toks := tk } := fun t u v tk htk => by
    have kk : Kp s₁ { s₁ with heap := s₁.heap.push { cls := .type "range", data := .fields #[.int a t, .int b u, .int c v] }, toks := tk } := Kp.mk' (fun _ _ e => Heap.get?_push_of_some _ e) htk
    refine wpAny_mono (iter_range (X := O ++ Hd) hA (I₁.lives.keeps kk) (IsRange.new ..) hsm) (fun it s₂ ⟨k₂, I', e, t⟩ => ⟨(k₁.trans kk).trans k₂, I', _, e, t.older (k₁.trans kk), q⟩) fun _ _ f => f
  rcases hd with ⟨hd, rfl, rfl⟩ | ⟨hd, rfl⟩ | hd
  · subst hd
    obtain ⟨v₁, r₁, rfl, h1, h2⟩ := rs
    cases h2
    obtain ⟨t, rfl⟩ := h1.int_inv
    exact call_range_1 (fin _ _ _ _ (by omega))
  · subst hd
    obtain ⟨v₁, r₁, rfl, h1, v₂, r₂, rfl, h2, h3⟩ := rs
    cases h3
    obtain ⟨t, rfl⟩ := h1.int_inv
    obtain ⟨t', rfl⟩ := h2.int_inv
    exact call_range_2 (fin _ _ _ _ (by omega))
  · subst hd
    obtain ⟨v₁, r₁, rfl, h1, v₂, r₂, rfl, h2, v₃, r₃, rfl, h3, h4⟩ := rs
    cases h4
    obtain ⟨t, rfl⟩ := h1.int_inv
    obtain ⟨t', rfl⟩ := h2.int_inv
    obtain ⟨t'', rfl⟩ := h3.int_inv
    exact call_range_3 (by omega) (fin _ _ _ _ (by omega)) (Or.inl (PyProof.noPylong_small (by omega)))
end
end Mine

end
section
open PySem PySem.W PySem.Calls PyProof.Rows
namespace Mine

theorem Store.set_set (σ : Store) (x : Str) (a b : Slot) : (σ.set x a).set x b = σ.set x b := by
  funext y; unfold Store.set; split <;> simp_all

section
variable {prog : Program} {w : World} {B : Shared} {A : Around} {env : Env} {σ : Store}

/-- one held or owned object changes, of which no variable speaks -/
theorem Inv.change {O Hd : List Addr} {s s' : Shared} {p : Addr} (J : Inv B O Hd env σ s) (hp : p ∈ O ++ Hd) (hL : p ≠ env.locals) (hC : ∀ x c, env.cells.lookup x = some c → c ≠ p) (hno : NoOwn σ)
    (hs : ∃ h tk, s' = { s with heap := h, toks := tk } ∧ s.toks ≤ tk) (hlive : ∃ o, s'.heap.get? p = some o) (k : ∀ b o, b ≠ p → s.heap.get? b = some o → s'.heap.get? b = some o) : Inv B O Hd env σ s' := by
  have ne : ∀ a, a ∉ O ++ Hd → a ≠ p := fun a ha q => ha (q ▸ hp)
  have key : ∀ a o, a ∉ O ++ Hd → s.heap.get? a = some o → s'.heap.get? a = some o ∧ a ∉ O ++ Hd := fun a o ha e => ⟨k a o (ne a ha) e, ha⟩
  obtain ⟨m, cm, ns, cs, vs⟩ := J.vars
  refine ⟨?_, fun b o e => key b o (J.base b o e).2 (J.base b o e).1, fun a ha => ?_, J.disj, J.kind, J.glob, J.blt, J.loc, J.cellIn, J.cellNe, J.cellInj, ⟨m, cm, ns.at' fun o e => k _ o (Ne.symm hL) e, fun x c e => ?_, fun x sl e => ?_⟩, J.one⟩
  · obtain ⟨h, tk, e, ht⟩ := hs; obtain ⟨h₀, tk₀, e₀, h0⟩ := J.same; exact ⟨h, tk, by rw [e, e₀], Nat.lt_of_lt_of_le (Nat.pos_of_ne_zero J.pos) ht⟩
  · by_cases q : a = p
    · subst q; exact hlive
    · obtain ⟨o, ho⟩ := J.live a ha; exact ⟨o, k a o q ho⟩
  · obtain ⟨o, ho, hd⟩ := cs x c e; exact ⟨o, k c o (hC x c e) ho, hd⟩
  · obtain ⟨v, h3, h4⟩ := vs x sl e
    refine ⟨v, h3, ?_⟩
    cases sl with
    | dat d => exact Rep.mono key h4
    | own ds => exact absurd e (hno x ds)

-- comprehensions
noncomputable def freeIn (scope : Scope) (y : Str) : Bool := decide (scope.names.lookup y = some .free)

noncomputable def dataOf (σ : Store) : Store := fun y => match σ y with | some (.dat d) => some (.dat d) | _ => none
/-- what a comprehension's own frame sees -/
noncomputable def compσ (scope : Scope) (σ : Store) : Store := fun y => if freeIn scope y = true then dataOf σ y else none

noncomputable def WTs (prog : Program) (w : World) (B : Shared) (A : Around) (env : Env) (σ : Store) : List Expr → (Bool → Prop) → Prop
  | [], Q => Q true
  | [c], Q => WT prog w B A env σ c Q
  | _, _ => False

theorem WTs.wp {O Hd : List Addr} {s : Shared} {ifs : List Expr} {Q : Bool → Prop} (h : WTs prog w B A env σ ifs Q) (J : Inv B O Hd env σ s) :
    wpAny (model prog w) A (forIn ifs true fun c r => if r = true then do let ok ← isTrue c env (eval c env); pure (ForInStep.yield ok) else pure (ForInStep.yield r)) (fun ok s' => Kp s s' ∧ Q ok) no s := by
  match ifs, h with
  | [], h => exact wpAny_tests_nil ⟨Kp.refl _, h⟩
  | [c], h => exact wpAny_tests_one (h O Hd s J)
  | _ :: _ :: _, h => exact (show False from h).elim

noncomputable def CompP (prog : Program) (w : World) (B : Shared) (A : Around) (cenv : Env) (σ₀ : Store) (x : Str) (ifs : List Expr) (elt : Expr) : List D → (List D → Prop) → Prop
  | [], Q => Q []
  | d :: ds, Q => WTs prog w B A cenv (σ₀.set x (.dat d)) ifs (fun ok => if ok = true then WE prog w B A cenv (σ₀.set x (.dat d)) elt (fun e => CompP prog w B A cenv σ₀ x ifs elt ds (fun es => Q (e :: es)))
      else CompP prog w B A cenv σ₀ x ifs elt ds Q)

theorem closureFor_some {f : Str × NameKind → List (Str × Addr) → Sem (ForInStep (List (Str × Addr)))}
    (hf : ∀ n k cs, f (n, k) cs = if (k == .free) = true then (do let a ← cellOf env n; pure (.yield ((n, a) :: cs))) else pure (.yield cs)) :
    ∀ (names : List (Str × NameKind)) (acc : List (Str × Addr)), (∀ y ∈ names, y.2 = .free → (env.cells.lookup y.1).isSome = true) → (∀ y c, acc.lookup y = some c → env.cells.lookup y = some c) →
      ∃ cl, forIn names acc f = (pure cl : Sem _) ∧ (∀ y c, cl.lookup y = some c → env.cells.lookup y = some c) ∧ (∀ y, (acc.lookup y).isSome = true → (cl.lookup y).isSome = true) ∧ (∀ y ∈ names, y.2 = .free → (cl.lookup y.1).isSome = true)
  | [], acc, _, ha => ⟨acc, rfl, ha, fun _ h => h, fun _ h => by cases h⟩
  | (n, k) :: rest, acc, hn, ha => by
    rw [List.forIn_cons, hf]
    by_cases hk : (k == NameKind.free) = true
    · rw [if_pos hk]
      have hkf : k = .free := by simpa using hk
      obtain ⟨c, hc⟩ := Option.isSome_iff_exists.mp (hn (n, k) (by simp) hkf)
      have e : cellOf env n = pure c := by unfold cellOf; simp only at hc; rw [hc]
      obtain ⟨cl, h1, h2, h3, h4⟩ := closureFor_some hf rest ((n, c) :: acc) (fun y hy => hn y (by simp [hy])) (fun y c' h => by
        rw [List.lookup_cons] at h
        cases hb : y == n with
        | true => rw [hb] at h; cases h; rw [beq_iff_eq.mp hb]; exact hc
        | false => rw [hb] at h; exact ha y c' h)
      refine ⟨cl, ?_, h2, fun y hy => h3 y ?_, fun y hy hf' => ?_⟩
      · rw [e]; exact h1
      · rw [List.lookup_cons]; cases hb : y == n <;> simp [hb, hy]
      · rcases List.mem_cons.mp hy with q | q
        · subst q; refine h3 _ ?_; rw [List.lookup_cons]; simp
        · exact h4 y q hf'
    · rw [if_neg hk]
      obtain ⟨cl, h1, h2, h3, h4⟩ := closureFor_some hf rest acc (fun y hy => hn y (by simp [hy])) ha
      refine ⟨cl, h1, h2, h3, fun y hy hf' => ?_⟩
      rcases List.mem_cons.mp hy with q | q
      · subst q; exact absurd (by simpa using hf') hk
      · exact h4 y q hf'

theorem mem_lookup {α : Type} : ∀ {l : List (Str × α)} {n : Str} {c : α}, l.lookup n = some c → (n, c) ∈ l := fun h => PySem.mem_of_lookup h

theorem relabel_free {scope : Scope} {y : Str} (hy : scope.names.lookup y = some .free) : ((relabel scope env).names.lookup y = some .cell) ∨ ((relabel scope env).names.lookup y = some .free) := by
  have : ∀ names : List (Str × NameKind), names.lookup y = some .free → ((names.map fun (n, k) => if (k == NameKind.free && env.scope.kind == .function && env.kindOf n == some .cell) then (n, NameKind.cell) else (n, k)).lookup y = some .cell) ∨
      ((names.map fun (n, k) => if (k == NameKind.free && env.scope.kind == .function && env.kindOf n == some .cell) then (n, NameKind.cell) else (n, k)).lookup y = some .free) := by
    intro names
    induction names with
    | nil => intro h; simp at h
    | cons p r ih =>
      obtain ⟨n, k⟩ := p
      intro h
      simp only [List.map_cons]
      rw [List.lookup_cons] at h
      cases hb : y == n with
      | true =>
        rw [hb] at h; cases h
        by_cases hc : (NameKind.free == NameKind.free && env.scope.kind == .function && env.kindOf n == some .cell) = true
        · rw [if_pos hc]; left; rw [List.lookup_cons, hb]
        · rw [if_neg hc]; right; rw [List.lookup_cons, hb]
      | false =>
        rw [hb] at h
        have := ih h
        by_cases hc : (k == NameKind.free && env.scope.kind == .function && env.kindOf n == some .cell) = true
        · rw [if_pos hc]; simpa [List.lookup_cons, hb] using this
        · rw [if_neg hc]; simpa [List.lookup_cons, hb] using this
  exact this _ hy


theorem closure_of {scope : Scope} (hn : ∀ y ∈ scope.names, y.2 = .free → (env.cells.lookup y.1).isSome = true) :
    ∃ cl, closureFor scope env = pure cl ∧ (∀ y c, cl.lookup y = some c → env.cells.lookup y = some c) ∧ (∀ y ∈ scope.names, y.2 = .free → (cl.lookup y.1).isSome = true) := by
  obtain ⟨cl, h1, h2, _, h4⟩ := closureFor_some (env := env) (f := fun x cs => if (x.2 == .free) = true then (do let a ← cellOf env x.1; pure (.yield ((x.1, a) :: cs))) else pure (.yield cs)) (fun _ _ _ => rfl) scope.names [] hn (fun _ _ h => by simp at h)
  refine ⟨cl, ?_, h2, h4⟩
  unfold closureFor
  have : (forIn scope.names ([] : List (Str × Addr)) fun x cs => if (x.2 == NameKind.free) = true then (do let a ← cellOf env x.1; pure (.yield ((x.1, a) :: cs))) else pure (.yield cs)) >>= pure = (pure cl : Sem _) := by rw [h1]; rfl
  exact this

theorem comp_core {O Hd : List Addr} {s s₂ : Shared} {I : Addr} {ds : List D} {elt iter : Expr} {x : Str} {px : Pos} {ifs : List Expr} {scope : Scope} {pos : Pos} {cl : List (Str × Addr)} {Q : List D → Prop} {E : Value → Shared → Prop} {RR : Value → Addr → Result → Shared → Prop}
    (J : Inv B O Hd env σ s) (k₂ : Kp s s₂) (t : It prog w A s (O ++ Hd) I ds s₂) (hsz : ds.length ≤ 2 ^ 24)
    (hcl : ∀ y c, cl.lookup y = some c → env.cells.lookup y = some c) (hfree : ∀ y ∈ scope.names, y.2 = .free → (cl.lookup y.1).isSome = true ∧ (env.kindOf y.1 = some .cell ∨ env.kindOf y.1 = some .free))
    (hcell : ∀ y ∈ scope.names, y.2 ≠ .cell) (hkind : scope.kind = .function) (hx : scope.names.lookup x = some .local)
    (L : ∀ C, CompP prog w B A (compEnvC scope cl C env) (compσ scope σ) x ifs elt ds Q)
    (hR : ∀ C D ys es m s', Kp s s' → s.heap.get? C = none → s.heap.get? D = none → C ≠ D → s'.heap.Ns C m → s'.heap.PlainList D (List.toArray ys) → Reps s'.heap (D :: C :: (O ++ Hd)) es ys → Q es → RR (.ref D) C (.ok .next) s') :
    wpAny (model prog w) A (newList []) (fun acc s₃ => wpAny (model prog w) A (newFunctionEnv scope env.globals cl [] env.qual none .none (some env)) (fun cenv s₄ =>
      codeAny (model prog w) A (.compStart (.ListComp elt [⟨.Name x px, iter, ifs, 0⟩] scope pos) 0 (.ref I) acc { cenv with scope := relabel scope env }) (RR acc cenv.locals) s₄) E s₃) E s₂ := by
  obtain ⟨fp, P, St, W, st, hfp, hfp', hI, hP, hgo⟩ := t.walk
  refine wpAny_newObj_type (wpAny_newFunctionEnv hcell (by intro y hy; simp at hy) (fun h₁ hns₁ hsb₁ => ?_) hkind)
  dsimp only at hns₁ hsb₁ ⊢
  generalize hD : s₂.heap.objs.size = Dd at hns₁ hsb₁ ⊢
  generalize hH2 : s₂.heap.push { cls := .type "list", dict := none, data := .seq ([] : List Value).toArray } = H2 at hns₁ hsb₁ ⊢
  have hC : H2.objs.size = Dd + 1 := by rw [← hH2, Heap.size_push, hD]
  generalize hCC : H2.objs.size = C at hns₁ hsb₁ hC ⊢
  have hDC : Dd ≠ C := by omega
  have below : ∀ b o, s₂.heap.get? b = some o → b ≠ C ∧ b ≠ Dd := fun b o e => by
    have h1 : b < s₂.heap.objs.size := Heap.lt_size e
    rw [hD] at h1
    exact ⟨fun q => by rw [q, hC] at h1; exact absurd h1 (Nat.not_lt.mpr (Nat.le_succ _)), fun q => by rw [q] at h1; exact Nat.lt_irrefl _ h1⟩
  have k₁ : ∀ b o, s₂.heap.get? b = some o → h₁.get? b = some o := fun b o e => hsb₁.extBut b o (below b o e).1 (Heap.get?_push_of_some _ (hH2 ▸ Heap.get?_push_of_some _ e))
  have hacc₁ : h₁.PlainList Dd ([] : List Value).toArray := ⟨0, hsb₁.extBut _ _ hDC (Heap.get?_push_of_some _ (by rw [← hH2, ← hD]; exact Heap.get?_push_size _ rfl))⟩
  have none_of : ∀ a : Nat, s₂.heap.objs.size ≤ a → s.heap.get? a = none := fun a ha => by
    cases e : s.heap.get? a with
    | none => rfl
    | some o => exact absurd (Heap.lt_size (k₂.get _ _ e)) (Nat.not_lt.mpr ha)
  have nC := none_of C (by rw [hD, hC]; exact Nat.le_succ _)
  have nD := none_of Dd (by rw [hD]; exact Nat.le_refl _)
  have ICD : I ≠ C ∧ I ≠ Dd := by obtain ⟨o, ho⟩ := hI 0 _ st; exact below I o ho
  -- the comprehension's frame
  obtain ⟨m₀, cm₀, ns₀, cs₀, vs₀⟩ := J.vars
  let cenv := compEnvC scope cl C env
  generalize hXc : Dd :: I :: (O ++ Hd) = Hc
  have s₁eq : Kp s { s₂ with heap := h₁, toks := s₂.toks } := k₂.trans (Kp.mk' k₁ (Nat.le_refl _))
  have cold : ∀ y c, cl.lookup y = some c → ∃ o, s.heap.get? c = some o := fun y c e => by obtain ⟨o, ho, _⟩ := cs₀ y c (hcl y c e); exact ⟨o, ho⟩
  have cne : ∀ y c, cl.lookup y = some c → c ≠ C ∧ c ≠ Dd ∧ c ≠ I := fun y c e => by
    obtain ⟨o, ho⟩ := cold y c e
    refine ⟨(below c o (k₂.get _ _ ho)).1, (below c o (k₂.get _ _ ho)).2, fun q => ?_⟩
    subst q; rw [t.fresh] at ho; cases ho
  have inX : ∀ a, a ∈ [C] ++ Hc ↔ a = C ∨ a = Dd ∨ a = I ∨ a ∈ O ++ Hd := fun a => by rw [← hXc]; simp
  have inHc : ∀ a, a ∈ Hc ↔ a = Dd ∨ a = I ∨ a ∈ O ++ Hd := fun a => by rw [← hXc]; simp
  have key₀ : ∀ {h : Heap}, (∀ b o, s.heap.get? b = some o → h.get? b = some o) → ∀ a o, a ∉ O ++ Hd → s.heap.get? a = some o → h.get? a = some o ∧ a ∉ [C] ++ Hc := fun {h} kk a o ha e => ⟨kk a o e, fun q => by
    have hb := below a o (k₂.get a o e)
    rcases (inX a).mp q with q | q | q | q
    · exact hb.1 q
    · exact hb.2 q
    · subst q; rw [t.fresh] at e; cases e
    · exact ha q⟩
  have J₁ : Inv B [C] Hc cenv (compσ scope σ) { s₂ with heap := h₁, toks := s₂.toks + ([] : List (Str × Value)).length } := by
    refine ⟨?_, fun b o e => key₀ s₁eq.get b o (J.base b o e).2 (J.base b o e).1, fun a ha => ?_, fun a ha q => ?_, (by show (relabel scope env).kind = _; exact hkind), J.glob, J.blt, (by show C ∈ _; simp), fun hf => (by cases hf), fun y c e => (cne y c e).1,
      fun y z c e e' => J.cellInj y z c (hcl y c e) (hcl z c e'), ⟨_, cm₀, hns₁, fun y c e => (cs₀ y c (hcl y c e)).keeps s₁eq.get, fun y sl e => ?_⟩, fun y z d e h => ?_⟩
    · obtain ⟨h, tk, e, ht⟩ := k₂.same; obtain ⟨h₀, tk₀, e₀, h0⟩ := J.same; exact ⟨h₁, s₂.toks, by rw [e, e₀]; rfl, Nat.pos_of_ne_zero (J.keeps k₂).pos⟩
    · rcases (inX a).mp ha with q | q | q | q
      · subst q; obtain ⟨o, _, _, ho, _⟩ := hns₁; exact ⟨o, ho⟩
      · subst q; obtain ⟨n, ho⟩ := hacc₁; exact ⟨_, ho⟩
      · subst q; obtain ⟨o, ho⟩ := hI 0 _ st; exact ⟨o, k₁ _ o ho⟩
      · obtain ⟨o, ho⟩ := J.live a q; exact ⟨o, s₁eq.get _ _ ho⟩
    · have ha' : a = C := by simpa using ha
      subst ha'
      rcases (inHc a).mp q with q | q | q
      · exact hDC q.symm
      · exact ICD.1 q.symm
      · obtain ⟨o, ho⟩ := J.live a q; rw [nC] at ho; cases ho
    · unfold compσ at e
      split at e
      · rename_i hfr
        have hfr' : scope.names.lookup y = some .free := by simpa [freeIn] using hfr
        unfold dataOf at e
        split at e
        · rename_i d hd
          cases e
          obtain ⟨v, h1, h2⟩ := vs₀ y _ hd
          have hm := hfree (y, .free) (mem_lookup hfr') rfl
          refine ⟨v, ?_, Rep.mono (key₀ s₁eq.get) h2⟩
          have hcm : cm₀ y = some v := by
            unfold Holds at h1
            simp only at hm
            rcases hm.2 with hk | hk <;> rw [hk] at h1 <;> exact h1.2
          unfold Holds
          rcases relabel_free (env := env) hfr' with hk | hk
          · have : cenv.kindOf y = some .cell := hk
            rw [this]; exact ⟨hm.1, hcm⟩
          · have : cenv.kindOf y = some .free := hk
            rw [this]; exact ⟨hm.1, hcm⟩
        · cases e
      · cases e
    · unfold compσ dataOf at h
      split at h
      · split at h <;> cases h
      · cases h
  have noσ₀ : NoOwn (compσ scope σ) := fun y ds' e => by
    unfold compσ dataOf at e
    split at e
    · split at e <;> cases e
    · cases e
  have hxl : cenv.kindOf x = some .local := lookup_relabel_local hx
  -- the loop
  have loop : codeAny (model prog w) A (.compLoop (.ListComp elt [⟨.Name x px, iter, ifs, 0⟩] scope pos) 0 (.ref I) (.ref Dd) cenv) (RR (.ref Dd) C) { s₂ with heap := h₁, toks := s₂.toks + ([] : List (Str × Value)).length } := by
    refine codeAny_compLoop_tests
      (fun n s' => ∃ i es ys σ', n = ds.length + 1 - i ∧ i ≤ ds.length ∧ St i s'.heap ∧ Inv B [C] Hc cenv σ' s' ∧ (∀ d, σ'.set x d = (compσ scope σ).set x d) ∧ NoOwn σ' ∧ s'.heap.PlainList Dd (List.toArray ys) ∧ Reps s'.heap ([C] ++ Hc) es ys ∧
        es.length ≤ i ∧ CompP prog w B A cenv (compσ scope σ) x ifs elt (ds.drop i) (fun rest => Q (es ++ rest)) ∧ Kp s s' ∧ (∀ i v d, P i v → ds[i]? = some d → Rep s'.heap ([C] ++ Hc) d v)) ?_ (ds.length + 1)
      ⟨0, [], [], compσ scope σ, by omega, by omega, W.frame _ _ _ st fun b _ o e => k₁ b o e, J₁, fun _ => rfl, noσ₀, hacc₁, rfl, by simp, by simpa using L C, s₁eq, ?_⟩
    · rintro n s₃ ⟨i, es, ys, σ', rfl, hi, st₃, J₃, hσ', hno', hacc₃, hes, hel, L₃, k₃, hP₃⟩
      have neI : ∀ b, b ≠ I → b ∉ [I] := fun b hb => by simpa using hb
      have fpC : ∀ b ∈ fp, b ≠ C ∧ b ≠ Dd := fun b hb => by obtain ⟨o, ho⟩ := hfp' b hb; exact below b o ho
      by_cases hlt : i < ds.length
      · refine wpAny_with_toks (n := s₃.toks) (Nat.le_refl _) (W.item i s₃ _ _ hlt st₃ fun v h₄ tk₄ pv st₄ k₄ ht₄ => ?_)
        have J₄ : Inv B [C] Hc cenv σ' { s₃ with heap := h₄, toks := tk₄ } := J₃.change (p := I) ((inX I).mpr (.inr (.inr (.inl rfl)))) ICD.1 (fun y c e => (cne y c e).2.2) hno' ⟨_, _, rfl, ht₄⟩ (hI _ _ st₄) fun b o hb e => k₄ b o (neI b hb) e
        have k34 : Kp s { s₃ with heap := h₄, toks := tk₄ } := ⟨by obtain ⟨h, tk, e, ht⟩ := k₃.same; exact ⟨h₄, tk₄, by rw [e], Nat.le_trans ht (by rw [e] at ht₄; exact ht₄)⟩, fun b o e => k₄ b o (neI b (fun q => by subst q; rw [t.fresh] at e; cases e)) (k₃.get b o e)⟩
        have hdi : ds[i]? = some ds[i] := by simp [hlt]
        have key4 : ∀ a o, a ∉ [C] ++ Hc → s₃.heap.get? a = some o → h₄.get? a = some o ∧ a ∉ [C] ++ Hc := fun a o ha e => ⟨k₄ a o (neI a fun q => ha ((inX a).mpr (.inr (.inr (.inl q))))) e, ha⟩
        have r₄ : Rep h₄ ([C] ++ Hc) ds[i] v := (hP₃ i v _ pv hdi).mono key4
        refine assign_Name (J₄.store (.inl hxl) r₄ fun s₅ x₅ J₅ => ?_)
        rw [hσ'] at J₅
        rw [List.drop_eq_getElem_cons hlt] at L₃
        have neC : ∀ b, b ≠ C → b ∉ [C] := fun b hb => by simpa using hb
        have k35 : Kp s s₅ := ⟨by obtain ⟨h, tk, e, ht⟩ := k34.same; obtain ⟨h', tk', e', ht'⟩ := x₅.same; exact ⟨h', tk', by rw [e', e], Nat.le_trans ht (by rw [e] at ht'; exact ht')⟩, fun b o e => x₅.keep b o (neC b (below b o (k₂.get b o e)).1) (k34.get b o e)⟩
        have st₅ : St (i + 1) s₅.heap := W.frame _ _ _ st₄ fun b hb o e => x₅.keep b o (neC b (fpC b hb).1) e
        have up : ∀ a o, a ∉ [C] ++ Hc → s₃.heap.get? a = some o → s₅.heap.get? a = some o ∧ a ∉ [C] ++ Hc := fun a o ha e => ⟨x₅.keep a o (fun q => ha (List.mem_append_left _ q)) (key4 a o ha e).1, ha⟩
        have hacc₅ : s₅.heap.PlainList Dd ys.toArray := hacc₃.at fun o e => x₅.keep Dd o (neC Dd hDC) (k₄ Dd o (neI Dd ICD.2.symm) e)
        have hes₅ := hes.mono up
        have hP₅ : ∀ i v d, P i v → ds[i]? = some d → Rep s₅.heap ([C] ++ Hc) d v := fun j u d pu hd => (hP₃ j u d pu hd).mono up
        have hno₅ : NoOwn ((compσ scope σ).set x (.dat ds[i])) := noσ₀.set _ _
        have goOn : ∀ s₆, Kp s₅ s₆ → CompP prog w B A cenv (compσ scope σ) x ifs elt (ds.drop (i + 1)) (fun rest => Q (es ++ rest)) → ∃ m, m < ds.length + 1 - i ∧ ∃ i' es' ys' σ', m = ds.length + 1 - i' ∧ i' ≤ ds.length ∧ St i' s₆.heap ∧ Inv B [C] Hc cenv σ' s₆ ∧ (∀ d, σ'.set x d = (compσ scope σ).set x d) ∧ NoOwn σ' ∧ s₆.heap.PlainList Dd (List.toArray ys') ∧ Reps s₆.heap ([C] ++ Hc) es' ys' ∧
            es'.length ≤ i' ∧ CompP prog w B A cenv (compσ scope σ) x ifs elt (ds.drop i') (fun rest => Q (es' ++ rest)) ∧ Kp s s₆ ∧ (∀ i v d, P i v → ds[i]? = some d → Rep s₆.heap ([C] ++ Hc) d v) := fun s₆ k₆ L₆ =>
          ⟨ds.length + 1 - (i + 1), by omega, i + 1, es, ys, _, rfl, by omega, W.frame _ _ _ st₅ fun b hb o e => k₆.get b o e, J₅.keeps k₆, fun d => Store.set_set .., hno₅, hacc₅.at fun o e => k₆.get _ o e, hes₅.keeps k₆.get, by omega, L₆, k35.trans k₆,
            fun j u d pu hd => (hP₅ j u d pu hd).keeps k₆.get⟩
        have goElt : ∀ s₆, Kp s₅ s₆ → WE prog w B A cenv ((compσ scope σ).set x (.dat ds[i])) elt (fun e => CompP prog w B A cenv (compσ scope σ) x ifs elt (ds.drop (i + 1)) (fun es' => Q (es ++ e :: es'))) →
            wpAny (model prog w) A (eval elt cenv) (fun y s₇ => wpAny (model prog w) A (call (.builtin "list.append") [.ref Dd, y]) (fun _ s₈ => ∃ m, m < ds.length + 1 - i ∧ ∃ i' es' ys' σ', m = ds.length + 1 - i' ∧ i' ≤ ds.length ∧ St i' s₈.heap ∧ Inv B [C] Hc cenv σ' s₈ ∧ (∀ d, σ'.set x d = (compσ scope σ).set x d) ∧ NoOwn σ' ∧ s₈.heap.PlainList Dd (List.toArray ys') ∧ Reps s₈.heap ([C] ++ Hc) es' ys' ∧
            es'.length ≤ i' ∧ CompP prog w B A cenv (compσ scope σ) x ifs elt (ds.drop i') (fun rest => Q (es' ++ rest)) ∧ Kp s s₈ ∧ (∀ i v d, P i v → ds[i]? = some d → Rep s₈.heap ([C] ++ Hc) d v)) (notedBy (model prog w) A cenv fun e s' => RR (.ref Dd) C (.error e) s') s₇) (notedBy (model prog w) A cenv fun e s' => RR (.ref Dd) C (.error e) s') s₆ := fun s₆ k₆ L₆ => by
          refine wpAny_mono (L₆ [C] Hc s₆ (J₅.keeps k₆)) (fun y s₇ ⟨k₇, d, r, L₇⟩ => ?_) fun _ _ f => f.elim
          have k57 := k₆.trans k₇
          have hacc₇ : s₇.heap.PlainList Dd ys.toArray := hacc₅.at fun o e => k57.get _ o e
          have J₇ := J₅.keeps k57
          refine wpAny_list_append_plain hacc₇ (fun h₈ hp hs => ?_) (by rw [List.size_toArray, hes.length]; unfold sizeLine; omega)
          have e : ys.toArray.push y = (ys ++ [y]).toArray := by simp
          rw [e] at hp
          obtain ⟨n8, ho8⟩ := id hp
          have J₈ : Inv B [C] Hc cenv ((compσ scope σ).set x (.dat ds[i])) { s₇ with heap := h₈ } := J₇.change (p := Dd) ((inX Dd).mpr (.inr (.inl rfl))) hDC (fun y c e => (cne y c e).2.1) hno₅ ⟨h₈, s₇.toks, rfl, Nat.le_refl _⟩ ⟨_, ho8⟩ fun b o hb e => (hs.2 b hb).trans e
          have neD : ∀ a, a ∉ [C] ++ Hc → a ≠ Dd := fun a ha q => ha ((inX a).mpr (.inr (.inl q)))
          have up8 : ∀ a o, a ∉ [C] ++ Hc → s₇.heap.get? a = some o → h₈.get? a = some o ∧ a ∉ [C] ++ Hc := fun a o ha e => ⟨(hs.2 a (neD a ha)).trans e, ha⟩
          refine ⟨ds.length + 1 - (i + 1), by omega, i + 1, es ++ [d], ys ++ [y], _, rfl, by omega, W.frame _ _ _ st₅ fun b hb o e => (hs.2 b (fpC b hb).2).trans (k57.get b o e), J₈, fun d => Store.set_set .., hno₅, hp, ?_, by simp; omega, ?_, ?_, fun j u d pu hd => ((hP₅ j u d pu hd).keeps k57.get).mono up8⟩
          · exact (((hes₅.keeps k57.get)).append (Reps.one r)).mono up8
          · simpa using L₇
          · refine ⟨by obtain ⟨h, tk, e, ht⟩ := (k35.trans k57).same; exact ⟨h₈, s₇.toks, by rw [e], by rw [e]; exact ht⟩, fun b o e => (hs.2 b (below b o (k₂.get b o e)).2).trans ((k35.trans k57).get b o e)⟩
        refine wpAny_mono (WTs.wp L₃ J₅) (fun ok s₆ ⟨k₆, L₆⟩ => ?_) fun _ _ f => f.elim
        cases ok with
        | true => simp only [if_true] at L₆ ⊢; exact goElt s₆ k₆ L₆
        | false => simp only [Bool.false_eq_true, if_false] at L₆ ⊢; exact goOn s₆ k₆ L₆
      · have hi' : i = ds.length := by omega
        subst hi'
        refine wpAny_with_toks (n := s₃.toks) (Nat.le_refl _) (W.done s₃ _ _ st₃ fun h₄ tk₄ k₄ ht₄ => ?_)
        rw [List.drop_of_length_le (Nat.le_refl _)] at L₃
        obtain ⟨m₃, _, ns₃, _, _⟩ := J₃.vars
        refine hR C Dd ys es m₃ _ ?_ nC nD (Ne.symm hDC) (ns₃.at' fun o e => k₄ _ o (neI _ ICD.1.symm) e) (hacc₃.at fun o e => k₄ _ o (neI _ ICD.2.symm) e) ?_ (by simpa [CompP] using L₃)
        · exact ⟨by obtain ⟨h, tk, e, ht⟩ := k₃.same; exact ⟨h₄, tk₄, by rw [e], Nat.le_trans ht (by rw [e] at ht₄; exact ht₄)⟩, fun b o e => k₄ b o (neI b (fun q => by subst q; rw [t.fresh] at e; cases e)) (k₃.get b o e)⟩
        · refine hes.mono fun a o ha e => ⟨k₄ a o (neI a fun q => ha ((inX a).mpr (.inr (.inr (.inl q))))) e, fun q => ha ((inX a).mpr ?_)⟩
          rcases List.mem_cons.mp q with q | q
          · exact .inr (.inl q)
          · rcases List.mem_cons.mp q with q | q
            · exact .inl q
            · exact .inr (.inr (.inr q))
    · intro i v d pv hd
      refine (hP i v d pv hd).mono fun a o ha e => ⟨k₁ a o e, fun q => ?_⟩
      have hb := below a o e
      rcases (inX a).mp q with q | q | q | q
      · exact hb.1 q
      · exact hb.2 q
      · exact ha (by subst q; simp)
      · exact ha (List.mem_cons_of_mem _ q)
  exact codeAny_compStart_list loop (W.self 0 _ _ _ (W.frame _ _ _ st fun b _ o e => k₁ b o e) loop)

/-- a comprehension's conditions upon its scope -/
structure CompOk (env : Env) (σ : Store) (scope : Scope) (x : Str) : Prop where
  free : ∀ y ∈ scope.names, y.2 = .free → (env.kindOf y.1 = some .cell ∧ (env.cells.lookup y.1).isSome = true)
  cell : ∀ y ∈ scope.names, y.2 ≠ .cell
  kind : scope.kind = .function
  names : ∀ y ∈ scope.names, y.2 = .local → scope.names.lookup y.1 = some .local
  var : scope.names.lookup x = some .local

theorem WE_listcomp {elt iter : Expr} {x : Str} {px : Pos} {ifs : List Expr} {scope : Scope} {pos : Pos} {Q : D → Prop} (ok : CompOk env σ scope x)
    (h : WI prog w B A env σ iter (fun ds => ds.length ≤ 2 ^ 24 ∧ ∀ C cl, CompP prog w B A (compEnvC scope cl C env) (compσ scope σ) x ifs elt ds (fun es => Q (.lst es))))
    (hs : ∀ x, foldedSetIterable iter env x = pure x := by intro _; rfl) : WE prog w B A env σ (.ListComp elt [⟨.Name x px, iter, ifs, 0⟩] scope pos) Q := fun O Hd s J => by
  obtain ⟨cl, h1, h2, h3⟩ := closure_of (env := env) (scope := scope) (fun y hy hf => (ok.free y hy hf).2)
  rw [eval_ListComp]
  refine wpAny_comprehension_free (use := none) rfl hs h1 ok.kind ok.names (wpAny_mono (h O Hd s J) (fun xv s₁ h₁ => wpAny_mono h₁ (fun it s₂ ⟨k₂, I, ds, e, t, hsz, L⟩ => ?_) fun _ _ e => e) fun _ _ e => e)
  subst e
  refine comp_core (RR := fun acc C => compPost (model prog w) A no none (fun v s' => Kp s s' ∧ ∃ d, Rep s'.heap (O ++ Hd) d v ∧ Q d) acc C) J k₂ t hsz h2 (fun y hy hf => ⟨h3 y hy hf, .inl (ok.free y hy hf).1⟩) ok.cell ok.kind ok.var (fun C => L C cl) ?_
  intro C D ys es m s' k hC hD hCD ns hl hr q
  refine ⟨m, ns, fun h' hs' => ⟨⟨by obtain ⟨h, tk, e, ht⟩ := k.same; exact ⟨h', s'.toks, by rw [e], by rw [e]; exact ht⟩, fun b o e => (hs'.2 b (fun z => by subst z; rw [hC] at e; cases e)).trans (k.get b o e)⟩, .lst es, ?_, q⟩⟩
  refine rep_lst (vs := ys) ?_ (hl.at fun o e => (hs'.2 D (Ne.symm hCD)).trans e) (hr.mono fun a o ha e => ⟨(hs'.2 a (fun z => ha (by subst z; simp))).trans e, fun z => ha (List.mem_cons_of_mem _ (List.mem_cons_of_mem _ z))⟩)
  intro z
  obtain ⟨o, ho⟩ := J.live D z
  rw [hD] at ho; cases ho

end
end Mine

end
section
open PySem PySem.W PySem.Calls PyProof.Rows PySem.SeqAt
namespace Mine

/-- equality of plain items -/
noncomputable def eqD : D → D → Option Bool
  | .int a, .int b => some (a == b)
  | .flt a, .flt b => if (Float64.cmp a b == some .eq) = true then some true else none
  | .typ a, .typ b => if (a == b) = true then some true else none
  | _, _ => none
noncomputable def eqL : List D → List D → Option Bool
  | [], [] => some true
  | a :: as, b :: bs => match eqD a b, eqL as bs with
    | some x, some y => some (x && y)
    | _, _ => none
  | _, _ => none

section
variable {prog : Program} {w : World} {B : Shared} {A : Around} {env : Env} {σ : Store}

theorem EqAt.flt {s : Shared} {a b : UInt64} {t u : Tok} (h : (Float64.cmp a b == some .eq) = true) (ht : t ≠ 0) (hu : u ≠ 0) (hb : NoneBooked s.heap) : EqAt A s (.float a t) (.float b u) true := fun prog w E Q hq => by
  unfold eqBool
  refine wpAny_holding ?_
  by_cases hab : (Value.float a t == Value.float b u) = true
  · rw [if_pos hab]
    exact wpAny_bind (wpAny_rule (wpAny_pure hq))
  · rw [if_neg hab]
    have key : wpAny (model prog w) A (isSame (.float a t) (.float b u)) (fun _ s' => s' = s) E s := by
      show wpAny _ A (isSame.created (a == b && !Float64.isNaN a) t u) _ E s
      unfold isSame.created
      refine wpAny_ite ?_
      split
      · rename_i h; simp at h; rcases h with h | h
        · exact absurd h ht
        · exact absurd h hu
      refine wpAny_ite ?_
      split
      · exact wpAny_pure rfl
      refine wpAny_ite ?_
      split
      · exact wpAny_pure rfl
      refine wpAny_bind (wpAny_sharingNotTold_none hb ?_)
      first | rw [if_neg Bool.false_ne_true] | simp only [Bool.false_eq_true, if_false]
      refine wpAny_bind (wpAny_sharingNotTold_none hb ?_)
      first | rw [if_neg Bool.false_ne_true] | simp only [Bool.false_eq_true, if_false]
      exact wpAny_bind (wpAny_rule (wpAny_bind (wpAny_askSetting (wpAny_pure rfl))))
    have rc : wpAny (model prog w) A (richCompare .Eq (.float a t) (.float b u)) (fun v s' => v = .bool true ∧ s' = s) E s := AutoFloatOps.eq_0 (Q := fun v s' => v = .bool true ∧ s' = s) ⟨by rw [h], rfl⟩
    refine wpAny_bind (wpAny_mono key (fun c s' hs => ?_) fun _ _ e => e)
    subst hs
    cases c with
    | true => exact wpAny_pure hq
    | false =>
      refine wpAny_bind (wpAny_mono rc (fun v s' hv => ?_) fun _ _ e => e)
      obtain ⟨rfl, rfl⟩ := hv
      exact wpAny_truthy_bool hq

theorem eqD_at {s : Shared} {X : List Addr} {a b : D} {va vb : Value} {r : Bool} (h : eqD a b = some r) (hb : NoneBooked s.heap) (ra : Rep s.heap X a va) (rb : Rep s.heap X b vb) : EqAt A s va vb r := by
  unfold eqD at h
  split at h
  · cases h
    obtain ⟨t, rfl⟩ := ra.int_inv; obtain ⟨u, rfl⟩ := rb.int_inv
    exact EqAt.int_int _ _ _ _
  · split at h
    · rename_i hc
      cases h
      obtain ⟨t, rfl, ht⟩ := ra.flt_inv; obtain ⟨u, rfl, hu⟩ := rb.flt_inv
      exact EqAt.flt hc ht hu hb
    · cases h
  · split at h
    · rename_i hc
      cases h
      cases ra.typ_inv; cases rb.typ_inv
      rw [beq_iff_eq.mp hc]
      exact EqAt.same _
    · cases h
  · cases h

theorem eqL_len : ∀ {as bs : List D} {r : Bool}, eqL as bs = some r → as.length = bs.length
  | [], [], _, _ => rfl
  | [], _ :: _, _, h => by simp [eqL] at h
  | _ :: _, [], _, h => by simp [eqL] at h
  | a :: as, b :: bs, r, h => by
    simp only [eqL] at h
    split at h
    · rename_i x y hx hy
      rw [List.length_cons, List.length_cons, eqL_len hy]
    · cases h

theorem eqL_all : ∀ {as bs : List D} {r : Bool}, eqL as bs = some r → ∃ e : Nat → Bool, (∀ (j : Nat) a b, as[j]? = some a → bs[j]? = some b → eqD a b = some (e j)) ∧ (List.range as.length).all e = r
  | [], [], r, h => ⟨fun _ => true, by simp, by simpa [eqL] using h⟩
  | [], _ :: _, _, h => by simp [eqL] at h
  | _ :: _, [], _, h => by simp [eqL] at h
  | a :: as, b :: bs, r, h => by
    simp only [eqL] at h
    split at h
    · rename_i x y hx hy
      cases h
      obtain ⟨e, h1, h2⟩ := eqL_all hy
      refine ⟨fun j => match j with | 0 => x | j + 1 => e j, fun j a' b' ha hb => ?_, ?_⟩
      · cases j with
        | zero => simp at ha hb; subst ha hb; exact hx
        | succ j => simp at ha hb; exact h1 j a' b' ha hb
      · rw [List.length_cons, List.range_succ_eq_map, List.all_cons, List.all_map, ← h2]
        rfl
    · cases h

theorem eqL_places {s : Shared} {X : List Addr} {as bs : List D} {vs ws : List Value} {r : Bool} (h : eqL as bs = some r) (hb : NoneBooked s.heap) (ra : Reps s.heap X as vs) (rb : Reps s.heap X bs ws) :
    vs.toArray.size = ws.toArray.size ∧ ∃ e : Nat → Bool, (∀ j (h1 : j < vs.toArray.size) (h2 : j < ws.toArray.size), EqAt A s vs.toArray[j] ws.toArray[j] (e j)) ∧ (List.range vs.toArray.size).all e = r := by
  have e1 := ra.length; have e2 := rb.length; have e3 := eqL_len h
  obtain ⟨e, h1, h2⟩ := eqL_all h
  refine ⟨by simp; omega, e, fun j hj1 hj2 => ?_, by rw [List.size_toArray, e1]; exact h2⟩
  simp at hj1 hj2
  obtain ⟨a, ha, r1⟩ := ra.get (i := j) (v := vs[j]) (by simp [hj1])
  obtain ⟨b, hb', r2⟩ := rb.get (i := j) (v := ws[j]) (by simp [hj2])
  simpa using eqD_at (A := A) (h1 j a b ha hb') hb r1 r2

theorem Grd.told {mg mb : Str → Option Value} {X : List Addr} {s : Shared} (g : Grd B X s) (G : Base B mg mb) : NoneBooked s.heap := by
  obtain ⟨mc, h1, h2⟩ := G.told
  exact ⟨mc, h1.keeps fun b o e => (g.base b o e).1, h2⟩

theorem CO_ne_ll {mg mb : Str → Option Value} (G : Base B mg mb) {as bs : List D} {r : Bool} {Q : Bool → Prop} (hU : A.units < cLine) (h : eqL as bs = some r) (q : Q (!r)) : CO prog w B A .NotEq (.lst as) (.lst bs) Q := fun X s va vb g ra rb => by
  obtain ⟨a, vs, rfl, ha, hl, hr⟩ := ra.lst_inv; obtain ⟨b, ws, rfl, hb, hl', hr'⟩ := rb.lst_inv
  obtain ⟨hsz, e, he, hall⟩ := eqL_places (A := A.in1) h (g.told G) hr hr'
  refine RcNeAt.lists hl.isList hl'.isList hsz hU he prog w no _ ?_
  exact ⟨Kp.refl _, _, rfl, by rw [hall]; exact q⟩
theorem CO_ne_tt {mg mb : Str → Option Value} (G : Base B mg mb) {as bs : List D} {r : Bool} {Q : Bool → Prop} (hU : A.units < cLine) (h : eqL as bs = some r) (q : Q (!r)) : CO prog w B A .NotEq (.tup as) (.tup bs) Q := fun X s va vb g ra rb => by
  obtain ⟨a, vs, rfl, ha, hl, hr⟩ := ra.tup_inv; obtain ⟨b, ws, rfl, hb, hl', hr'⟩ := rb.tup_inv
  obtain ⟨hsz, e, he, hall⟩ := eqL_places (A := A.in1) h (g.told G) hr hr'
  refine RcNeAt.tuples hl.isTuple hl'.isTuple hU he prog w no _ ?_
  refine ⟨Kp.refl _, _, rfl, ?_⟩
  rw [← hsz, Nat.min_self, hall]
  simpa using q
theorem WC_len_l {ds : List D} {Q : D → Prop} (hfit : ds.length < 2 ^ 30) (q : Q (.int ds.length)) : WC prog w B A (.builtin "len") [.lst ds] Q := fun X s vals g r => by
  obtain ⟨v, r₁, rfl, h1, h2⟩ := r
  cases h2
  obtain ⟨a, vs, rfl, ha, hl, hr⟩ := h1.lst_inv
  refine call_len_list hl.isList (by simp [hr.length]; omega) ?_
  refine ⟨Kp.tok _ _ (by show s.toks ≤ s.toks + 1 + 1; omega), .int ds.length, ?_, q⟩
  have : ((vs.toArray.size : Nat) : Int) = ds.length := by simp [hr.length]
  rw [this]; exact rep_int
theorem typ_float : typeOf (.type "float") = pure (.type "type") := by with_unfolding_all rfl
theorem sub_float : isSubtype (.type "float") (.type "float") = pure true := by rw [isSubtype_type]; kernel_rfl
theorem WC_isi_f {x : UInt64} {Q : D → Prop} (q : Q (.bool true)) : WC prog w B A (.builtin "isinstance") [.flt x, .typ "float"] Q := fun X s vals g r => by
  obtain ⟨v, r₁, rfl, h1, v', r₂, rfl, h2, h3⟩ := r
  cases h3
  obtain ⟨t, rfl, ht⟩ := h1.flt_inv
  cases h2.typ_inv
  exact call_isinstance_yes (Tx := "float") rfl typ_float sub_float ⟨Kp.refl _, _, rep_bool, q⟩
/-- round(x) of a finite float -/
noncomputable def roundF (x : UInt64) : Int := PySem.Flt.toInt Float64.nearestOf x
theorem WC_round {x : UInt64} {Q : D → Prop} (hA : A.handled = none) (hx : Float64.isFinite x = true) (q : Q (.int (roundF x))) : WC prog w B A (.builtin "round") [.flt x] Q := fun X s vals g r => by
  obtain ⟨v, r₁, rfl, h1, h2⟩ := r
  cases h2
  obtain ⟨t, rfl, ht⟩ := h1.flt_inv
  refine PySem.Flt.call_round_float hA (fun h => ?_) (fun h => ?_) (fun _ => ⟨Kp.tok _ _, _, rep_int, q⟩)
  · unfold Float64.isFinite at hx; unfold Float64.isNaN at h
    cases hd : Float64.decode x <;> rw [hd] at hx h <;> simp at hx h
  · unfold Float64.isFinite at hx; unfold Float64.isInf at h
    cases hd : Float64.decode x <;> rw [hd] at hx h <;> simp at hx h
end
end Mine

end
section
open PySem PySem.W PySem.Calls PyProof.Rows PySem.SeqAt
namespace Mine

section
variable {prog : Program} {w : World} {B : Shared} {A : Around} {env : Env} {σ : Store}

/-- a first parameter that is a plain local: behind its store a token has been drawn -/
theorem newEnv_pos {M : Model} {E : Value → Shared → Prop} {s : Shared} {scope : Scope} {globals : Addr} {n : Str} {v : Value} {qual : Str} {func : Option Addr} {code : Value} {builtins : Addr} {Q : Env → Shared → Prop}
    (hk : scope.kind = .function) (hn : scope.names.lookup n = some .local)
    (hQ : ∀ env, env = newEnv scope s.heap.objs.size globals (cellsFrom (s.heap.objs.size + 1) scope.names []) qual func code none builtins →
      ∀ s', InCallC s env.locals (bindL env.kindOf [(n, v)] fun _ => none) env.cells (bindC env.kindOf [(n, v)] fun _ => none) s' → 1 ≤ s'.toks → Q env s') :
    wpAny M A (newFunctionEnv scope globals [] [(n, v)] qual func code none builtins) Q E s := by
  simp only [newFunctionEnv, Option.isSome_none, Bool.false_eq_true, if_false]
  refine wpAny_bind (wpAny_alloc ?_)
  refine wpAny_bind (wpAny_layCells _ (fun name kind cells => by cases hkc : kind == NameKind.cell <;> simp [hkc]) _ _ _ _ ?_)
  have ok := cellsFrom_ok scope.names (s.heap.push { cls := .type "frame", data := .dict #[] }) (s.heap.objs.size + 1) [] ⟨fun _ _ hm => (nomatch hm), List.Pairwise.nil⟩ (by rw [Heap.size_push]; exact Nat.le_refl _)
  rw [Heap.size_push] at ok
  rw [show ({ s with heap := s.heap.push { cls := .type "frame", data := .dict #[] } } : Shared).heap.objs.size = s.heap.objs.size + 1 from Heap.size_push ..]
  have x0 : InCallC s (newEnv scope s.heap.objs.size globals (cellsFrom (s.heap.objs.size + 1) scope.names []) qual func code none builtins).locals (fun _ => none) (newEnv scope s.heap.objs.size globals (cellsFrom (s.heap.objs.size + 1) scope.names []) qual func code none builtins).cells (fun _ => none)
      { s with heap := pushCells (s.heap.push { cls := .type "frame", data := .dict #[] }) scope.names } :=
    ⟨⟨⟨_, s.toks, rfl⟩, (Heap.Ns.new s.heap (.type "frame")).keeps (pushCells_keeps _ _), fun b o e => pushCells_keeps _ _ b o (Heap.get?_push_of_some _ e), Nat.le_refl _⟩,
      fun n c hc => (ok.empty n c (PySem.mem_of_lookup hc)).1, ok.apart, fun n c hm => (ok.empty n c hm).2⟩
  rw [List.forIn_cons]
  have hkl : (newEnv scope s.heap.objs.size globals (cellsFrom (s.heap.objs.size + 1) scope.names []) qual func code none builtins).kindOf n = some .local := hn
  have hkk : (newEnv scope s.heap.objs.size globals (cellsFrom (s.heap.objs.size + 1) scope.names []) qual func code none builtins).scope.kind = .function := hk
  refine wpAny_bind (wpAny_bind (wpAny_bind ?_))
  refine wpAny_mono (Q := fun _ s' => 1 ≤ s'.toks ∧ InCallC s (newEnv scope s.heap.objs.size globals (cellsFrom (s.heap.objs.size + 1) scope.names []) qual func code none builtins).locals (fun y => if y = n then some v else none) (newEnv scope s.heap.objs.size globals (cellsFrom (s.heap.objs.size + 1) scope.names []) qual func code none builtins).cells (fun _ => none) s') ?_ ?_ (fun _ _ e => e)
  · refine wpAny_storeName_local hkl x0.toInCall.ns (fun h' hn' hs' => ⟨Nat.le_add_left _ _, ⟨⟨⟨h', _, rfl⟩, hn', fun b o e => ?_, x0.toInCall.fresh⟩, fun k c hc => ?_, x0.apart, x0.above⟩⟩) (by show (scope.kind == .class || (scope.kind == .module && _)) = false; rw [hk]; rfl)
    · exact hs'.extBut b o (Nat.ne_of_lt (Nat.lt_of_lt_of_le (Heap.lt_size e) x0.toInCall.fresh)) (x0.toInCall.keep b o e)
    · exact (x0.cell k c hc).sameBut hs' (Nat.ne_of_gt (x0.above k c (PySem.mem_of_lookup hc)))
  · rintro _ s' ⟨h1, x1⟩
    refine wpAny_pure (wpAny_pure (wpAny_pure (hQ _ rfl s' ?_ h1)))
    unfold bindL bindL bindC bindC
    rw [if_pos hkl, if_pos hkl]
    exact x1

noncomputable def ndB : List Str → Bool
  | [] => true
  | x :: r => !(r.contains x) && ndB r
theorem ndB_nodup : ∀ {l : List Str}, ndB l = true → l.Nodup
  | [], _ => .nil
  | x :: r, h => by
    simp only [ndB, Bool.and_eq_true, Bool.not_eq_true'] at h
    refine List.nodup_cons.mpr ⟨fun q => ?_, ndB_nodup h.2⟩
    have := h.1
    rw [List.contains_iff_mem.mpr q] at this
    cases this

theorem law_call {mg mb : Str → Option Value} (G : Base B mg mb) {x : Str} {f : Addr} {fd : FuncData} (H : FnAt B mg x f fd) {n : Str} {d : D} {v : Value} {body : List Stmt}
    (hroom : A.depth < recursionLimit) (hbody : fd.body = .stmts body) (hclo : fd.closure = []) (hgl : fd.globals = mainGlobals) (hbl : fd.builtins = builtinsNs)
    (hco : fd.scope.isCoroutine = false) (hgen : fd.scope.isGenerator = false) (hk : fd.scope.kind = .function) (hnd' : ndB ((cellsFrom 0 fd.scope.names []).map (·.1)) = true)
    (hbind : bindArgs fd ⟨[v], []⟩ = pure [(n, v)]) (hn : fd.scope.names.lookup n = some .local) (r : Rep B.heap [] d v)
    (h : ∀ L, WS prog w B (A.deeper (callEnvC fd L f)) (callEnvC fd L f) (paramsAre [n] [d]) body (fun o _ => o = .ret (.bool true))) :
    wpAny (model prog w) A (call (.ref f) [v]) (fun u s' => u = .bool true ∧ (∀ b o, B.heap.get? b = some o → s'.heap.get? b = some o) ∧ s'.gens = B.gens ∧ s'.os = B.os) no B := by
  have hnd := ndB_nodup hnd'
  obtain ⟨o, ho, hdat⟩ := H.obj
  refine wpAny_call (codeAny_call_function hroom ho hdat hco hgen hbody H.code ?_)
  rw [hbind, hclo]
  refine wpAny_pure (newEnv_pos hk hn fun env he s₁ x ht => ?_)
  subst he
  refine ⟨G.nolimit.keeps x.toInCall.keep, codeAny_func ?_⟩
  -- the ground with a token drawn
  have key : ∀ a, a ∈ B.heap.objs.size :: (callEnvC fd B.heap.objs.size f).cells.map (·.2) → B.heap.objs.size ≤ a := fun a ha => by
    rcases List.mem_cons.mp ha with q | q
    · exact Nat.le_of_eq q.symm
    · obtain ⟨⟨n, c⟩, h1, h2⟩ := List.mem_map.mp q
      subst h2
      exact Nat.le_of_lt (x.above n c h1)
  have cellAt : ∀ n c, (callEnvC fd B.heap.objs.size f).cells.lookup n = some c → (n, c) ∈ (callEnvC fd B.heap.objs.size f).cells := fun n c e => PySem.mem_of_lookup e
  have new : ∀ a o, B.heap.get? a = some o → a ∉ (B.heap.objs.size :: (callEnvC fd B.heap.objs.size f).cells.map (·.2)) ++ [] := fun a o e q => by
    rw [List.append_nil] at q
    exact absurd (Heap.lt_size e) (Nat.not_lt.mpr (key a q))
  have J : Inv B (B.heap.objs.size :: (callEnvC fd B.heap.objs.size f).cells.map (·.2)) [] (callEnvC fd B.heap.objs.size f) (paramsAre [n] [d]) s₁ := by
    refine ⟨?_, fun b o e => ⟨x.toInCall.keep b o e, new b o e⟩, fun a ha => ?_, fun _ _ q => (by cases q), hk, hgl, hbl, List.mem_cons_self, fun _ y c e => List.mem_cons_of_mem _ (List.mem_map.mpr ⟨_, cellAt y c e, rfl⟩), fun y c e => Nat.ne_of_gt (x.above y c (cellAt y c e)),
      fun y z c e e' => name_of_addr x.apart (cellAt y c e) (cellAt z c e'), ⟨_, _, x.toInCall.ns, x.cell, fun y sl e => ?_⟩, fun y z ds es e => ?_⟩
    · obtain ⟨h, tk, e⟩ := x.toInCall.same; exact ⟨h, tk, e, by subst e; exact ht⟩
    · rw [List.append_nil] at ha
      rcases List.mem_cons.mp ha with q | q
      · obtain ⟨o, _, _, ho, _⟩ := x.toInCall.ns; subst q; exact ⟨o, ho⟩
      · obtain ⟨⟨n, c⟩, h1, h2⟩ := List.mem_map.mp q
        subst h2
        have e : (callEnvC fd B.heap.objs.size f).cells.lookup n = some c := lookup_of_mem_nodup (cellsFrom_names fd.scope.names 0 (B.heap.objs.size + 1) [] [] rfl ▸ hnd) h1
        obtain ⟨o, ho, _⟩ := x.cell n c e
        exact ⟨o, ho⟩
    · obtain ⟨d', v', h1, h2, h3⟩ := binds_hold (env := callEnvC fd B.heap.objs.size f) (h := B.heap) (X := []) [n] [d] [v] (fun _ => none) (fun _ => none) (fun _ => none) rfl (Reps.one r) (fun y hy => by simp at hy; subst hy; exact .inl hn) (fun _ _ e => by cases e) y sl e
      subst h1
      exact ⟨v', h2, Rep.mono (fun a o _ e => ⟨x.toInCall.keep a o e, new a o e⟩) h3⟩
    · obtain ⟨d', v', h1, _⟩ := binds_hold (env := callEnvC fd B.heap.objs.size f) (h := B.heap) (X := []) [n] [d] [v] (fun _ => none) (fun _ => none) (fun _ => none) rfl (Reps.one r) (fun y hy => by simp at hy; subst hy; exact .inl hn) (fun _ _ e => by cases e) y _ e
      cases h1
  refine wpAny_mono (h B.heap.objs.size _ [] s₁ J) (fun fl s' ⟨O', o, σ', x', i', fl', q⟩ => ?_) fun _ _ f => f.elim
  subst q
  obtain ⟨v', rfl, rv⟩ := fl'
  cases rv.bool_inv
  obtain ⟨h, tk, e, _⟩ := i'.same
  exact ⟨rfl, fun b o e => (i'.base b o e).1, by rw [e], by rw [e]⟩

/-- room for k more calls -/
structure Rm (k : Nat) (A : Around) : Prop where
  handled : A.handled = none
  depth : A.depth + k ≤ 900
  units : A.units + 4 * k ≤ 9000
theorem Rm.deeper {k : Nat} {A : Around} (r : Rm (k + 1) A) (env : Env) : Rm k (A.deeper env) := ⟨r.handled, by have := r.depth; show A.depth + 1 + k ≤ 900; omega, by have := r.units; show A.units + 3 + 4 * k ≤ 9000; omega⟩
theorem Rm.room {k : Nat} {A : Around} (r : Rm k A) : A.depth < recursionLimit := by have := r.depth; unfold recursionLimit; omega
theorem Rm.cl {k : Nat} {A : Around} (r : Rm k A) : A.units < cLine := by have := r.units; unfold cLine; omega
theorem Rm.caller : Rm 20 callerA := ⟨rfl, by decide, by decide⟩

/-- a def by its parts -/
theorem WC_doc {mg mb : Str → Option Value} (G : Base B mg mb) {x : Str} {f : Addr} {o : Obj} {name : Str} {params : Arguments} {scope : Scope} {pm cd doc : Value} {names : List Str} {args : List D} {body : List Stmt} {Q : D → Prop}
    (h1 : mg x = some (.ref f)) (h2 : B.heap.get? f = some o) (h3 : o.data = .func (docDef name params body scope pm cd doc)) (h4 : B.heap.CodeRec cd name)
    (hroom : A.depth < recursionLimit) (hl : args.length = names.length) (hbind : ∀ vals : List Value, vals.length = names.length → bindArgs (docDef name params body scope pm cd doc) ⟨vals, []⟩ = pure (names.zip vals))
    (hkind : ∀ L, ∀ y ∈ names, (callEnvC (docDef name params body scope pm cd doc) L f).kindOf y = some .local ∨ ((callEnvC (docDef name params body scope pm cd doc) L f).kindOf y = some .cell ∧ ((callEnvC (docDef name params body scope pm cd doc) L f).cells.lookup y).isSome = true))
    (h : ∀ L, WS prog w B (A.deeper (callEnvC (docDef name params body scope pm cd doc) L f)) (callEnvC (docDef name params body scope pm cd doc) L f) (paramsAre names args) body (fun o _ => match o with | .ret d => Q d | _ => False))
    (hco : scope.isCoroutine = false := by rfl) (hgen : scope.isGenerator = false := by rfl) (hk : scope.kind = .function := by rfl) (hnd : ndB ((cellsFrom 0 scope.names []).map (·.1)) = true := by rfl) : WC prog w B A (.ref f) args Q :=
  WC_def G ⟨h1, ⟨o, h2, h3⟩, h4⟩ hroom rfl rfl rfl rfl hco hgen hk (ndB_nodup hnd) hl hbind hkind h

theorem LoopP_inv {target : Expr} {body : List Stmt} {Q : Out → Store → Prop} (J : Nat → Store → Prop) : ∀ (ds : List D) (n : Nat) (σ : Store),
    (∀ i d σ, n ≤ i → ds[i - n]? = some d → J i σ → ∃ σ', WA prog w B A env σ target d σ' ∧ WS prog w B A env σ' body (fun o σ'' => o = .next ∧ J (i + 1) σ'')) → J n σ → (∀ σ, J (n + ds.length) σ → Q .next σ) → LoopP prog w B A env target body Q ds σ
  | [], n, σ, _, h0, hQ => hQ σ h0
  | d :: ds, n, σ, h, h0, hQ => by
    obtain ⟨σ', wa, ws⟩ := h n d σ (Nat.le_refl _) (by simp) h0
    refine ⟨σ', wa, WS.mono ws fun o σ'' ⟨ho, hj⟩ => ?_⟩
    subst ho
    refine LoopP_inv J ds (n + 1) σ'' (fun i e τ hi he hj => h i e τ (by omega) ?_ hj) hj (fun τ hj => hQ τ ?_)
    · rw [show i - n = (i - (n + 1)) + 1 by omega]; simpa using he
    · rw [List.length_cons, show n + (ds.length + 1) = n + 1 + ds.length by omega]; exact hj

/-- a loop by what holds of the store behind each turn -/
theorem LoopP_all {target : Expr} {body : List Stmt} {Q : Out → Store → Prop} (J : Nat → Store → Prop) {ds : List D} {σ : Store}
    (h : ∀ i d σ, ds[i]? = some d → J i σ → ∃ σ', WA prog w B A env σ target d σ' ∧ WS prog w B A env σ' body (fun o σ'' => o = .next ∧ J (i + 1) σ'')) (h0 : J 0 σ) (hQ : ∀ σ, J ds.length σ → Q .next σ) : LoopP prog w B A env target body Q ds σ :=
  LoopP_inv J ds 0 σ (fun i d σ _ hd hj => h i d σ (by simpa using hd) hj) h0 (fun σ hj => hQ σ (by simpa using hj))

theorem comp_get {scope : Scope} {σ : Store} {x y : Str} {d : Slot} {d' : D} (h : σ y = some (.dat d')) (hyx : decide (y = x) = false := by rfl) (hf : freeIn scope y = true := by rfl) : ((compσ scope σ).set x d) y = some (.dat d') := by
  unfold Store.set
  rw [if_neg (by simpa using hyx)]
  unfold compσ dataOf
  rw [if_pos hf, h]

/-- a comprehension all of whose items pass -/
theorem CompP_map {cenv : Env} {σ₀ : Store} {x : Str} {elt : Expr} (g : D → D) : ∀ (ds : List D) (Q : List D → Prop), (∀ d ∈ ds, WE prog w B A cenv (σ₀.set x (.dat d)) elt (fun e => e = g d)) → Q (ds.map g) → CompP prog w B A cenv σ₀ x [] elt ds Q
  | [], Q, _, q => q
  | d :: ds, Q, h, q => by
    show WTs prog w B A cenv (σ₀.set x (.dat d)) [] _
    simp only [WTs, if_true]
    refine WE.mono (h d (by simp)) fun e he => ?_
    subst he
    exact CompP_map g ds _ (fun d' hd' => h d' (by simp [hd'])) q
/-- a comprehension none of whose items passes its test -/
theorem CompP_none {cenv : Env} {σ₀ : Store} {x : Str} {elt c : Expr} : ∀ (ds : List D) (Q : List D → Prop), (∀ d ∈ ds, WT prog w B A cenv (σ₀.set x (.dat d)) c (fun b => b = false)) → Q [] → CompP prog w B A cenv σ₀ x [c] elt ds Q
  | [], Q, _, q => q
  | d :: ds, Q, h, q => by
    show WT prog w B A cenv (σ₀.set x (.dat d)) c _
    refine WT.mono (h d (by simp)) fun b hb => ?_
    subst hb
    simp only [Bool.false_eq_true, if_false]
    exact CompP_none ds _ (fun d' hd' => h d' (by simp [hd'])) q

theorem well_ints {P : Params} {h : Heap} {a : Addr} : ∀ {ns : List Int}, Well P h (.ref a) (ofPy (PyData.list (ns.map PyData.int))) → Rep h [] (.lst (ns.map D.int)) (.ref a) := by
  intro ns hw
  have all : ∀ (ns : List Int) (vs : List Value), WellAll P h vs (ofPys (ns.map PyData.int)) → Reps h [] (ns.map D.int) vs := by
    intro ns
    induction ns with
    | nil => intro vs hv; cases hv; rfl
    | cons n r ih =>
      intro vs hv
      cases hv with
      | cons h1 h2 => cases h1; exact ⟨_, _, rfl, rep_int, ih _ h2⟩
  cases hw with
  | list ho hall => exact rep_lst (by simp) ⟨0, ho⟩ (all ns _ hall)

theorem good_true {l : OpenLaw} {cl : Str → Option Addr} {mean : ExcName → Option Value} {args : List WData} {s₁ s' : Shared} (hg : s₁.gens = #[])
    (hk : ∀ b o, s₁.heap.get? b = some o → s'.heap.get? b = some o) (h1 : s'.gens = s₁.gens) (h2 : s'.os = s₁.os) : GoodWG l.row.claim cl mean args s₁ (.ok (.ret (.bool true))) s' := by
  refine GoodW.toG ⟨.inl ⟨.bool true, .bool true, [], rfl, fun cls => rfl, .bool true, ?_, fun _ => ⟨.nil, fun _ h => by cases h⟩⟩, hk, h2, h1.trans hg⟩
  exact postW_of rfl (w_eq_bool (w_res rfl) w_lit) rfl
end
end Mine

end
section
open PySem PySem.W PySem.Calls PyProof.Rows PySem.SeqAt
namespace Mine
section
variable {prog : Program} {w : World} {B : Shared} {A : Around} {env : Env} {σ : Store}

theorem ns_none_of {K : Frag} {h : Heap} {ns : Addr} {mg : Str → Option Value} {n : Str} (X : K.In h) (G : h.Ns ns mg) (e : nsIn K ns n = some none) : mg n = none := by
  obtain ⟨o, es, ep, ho, hd, _, hf⟩ := G
  unfold nsIn at e
  split at e
  · rename_i c d es' n' sl q
    have := X _ _ q
    rw [ho] at this
    cases this
    cases hd
    split at e
    · cases e
    · rename_i he
      rw [← hf]
      unfold nsFind findBy
      rw [← Array.find?_toList, he]
      rfl
  · cases e

/-- the ground of an opened row -/
theorem base_of {K : Frag} {s : Shared} {mg mb : Str → Option Value} (X : K.In s.heap) (h1 : s.heap.Ns mainGlobals mg) (h2 : s.heap.Ns builtinsNs mb) (h3 : ∀ x : Str, x ≠ "__name__" → mb x = bootBuiltins x) (h4 : s.heap.NoLimit) (e : nsIn K cStatics sharingNotToldKey = some none) : Base s mg mb :=
  ⟨h1, h2, h3, h4, by obtain ⟨mc, h1, h2⟩ := h4; exact ⟨mc, h1, ns_none_of X h1 e⟩⟩

noncomputable def compOkB (env : Env) (scope : Scope) (x : Str) : Bool :=
  scope.names.all (fun y => match y.2 with
    | .free => decide (env.kindOf y.1 = some .cell) && (env.cells.lookup y.1).isSome
    | .cell => false
    | .local => decide (scope.names.lookup y.1 = some .local)
    | _ => true) && decide (scope.kind = .function) && decide (scope.names.lookup x = some .local)
theorem compOk {scope : Scope} {x : Str} (h : compOkB env scope x = true) : CompOk env σ scope x := by
  simp only [compOkB, Bool.and_eq_true, List.all_eq_true, decide_eq_true_eq] at h
  obtain ⟨⟨h1, h2⟩, h3⟩ := h
  refine ⟨fun y hy hf => ?_, fun y hy hc => ?_, h2, fun y hy hf => ?_, h3⟩
  · have := h1 y hy; rw [hf] at this; simpa using this
  · have := h1 y hy; rw [hc] at this; cases this
  · have := h1 y hy; rw [hf] at this; simpa using this
end
end Mine

end
section
open PySem PySem.W PySem.Calls PyProof.Rows PySem.SeqAt
namespace Mine
section
variable {prog : Program} {w : World} {B : Shared} {A : Around} {env : Env} {σ : Store}

theorem WEs_cons {e : Expr} {rest : List Expr} {Q : List D → Prop} (h : WE prog w B A env σ e (fun d => WEs prog w B A env σ rest (fun ds => Q (d :: ds)))) : WEs prog w B A env σ (e :: rest) Q := h
theorem WEs_nil {Q : List D → Prop} (h : Q []) : WEs prog w B A env σ [] Q := h
theorem WP_some {e : Expr} {Q : Option Int → Prop} (h : WE prog w B A env σ e (fun d => ∃ i, d = .int i ∧ Q (some i))) : WP prog w B A env σ (some e) Q := h
theorem WP_none {Q : Option Int → Prop} (h : Q none) : WP prog w B A env σ none Q := h

theorem WE_call_doc {mg mb : Str → Option Value} (G : Base B mg mb) {x : Str} {p pos : Pos} {f : Addr} {o : Obj} {name : Str} {params : Arguments} {body : List Stmt} {scope : Scope} {pm cd doc : Value} {e : Expr} {args : List Expr} {Q : D → Prop}
    (h1 : mg x = some (.ref f)) (h2 : B.heap.get? f = some o) (h3 : o.data = .func (docDef name params body scope pm cd doc)) (h4 : B.heap.CodeRec cd name)
    (hx : env.kindOf x = some .globalImplicit) (h : WEs prog w B A env σ (e :: args) (fun ds => WC prog w B A (.ref f) ds Q))
    (hd : (x == ("__debug__" : Str)) = false := by decide) (hs : noStar (e :: args) = true := by rfl) : WE prog w B A env σ (.Call (.Name x p) (e :: args) [] pos) Q :=
  WE_call_def G ⟨h1, ⟨o, h2, h3⟩, h4⟩ hx h hd hs

/-- by a positive number -/
theorem BO_mod_p {a b : Int} {Q : D → Prop} (hb : 0 < b) (q : Q (.int (a % b))) : BO prog w A .Mod (.int a) (.int b) Q :=
  BO_mod_ii (by omega) (by rw [Int.fmod_eq_emod_of_nonneg _ (by omega)]; exact q)
theorem log2_small {b : Int} (h1 : -(2 ^ 200) < b) (h2 : b < 2 ^ 200) : b.natAbs.log2 < 9000 := by
  rcases Nat.eq_zero_or_pos b.natAbs with h0 | hp
  · rw [h0]; decide
  · have : b.natAbs < 2 ^ 200 := by omega
    exact (Nat.log2_lt (Nat.ne_of_gt hp)).mpr (Nat.lt_trans this (Nat.pow_lt_pow_right (by decide) (by decide)))
theorem BO_div_p {a b : Int} {Q : D → Prop} (hb : 0 < b) (hb' : b < 2 ^ 200) (q : Q (.int (a / b))) : BO prog w A .FloorDiv (.int a) (.int b) Q :=
  BO_floordiv_ii (by omega) (log2_small (by omega) hb') (by rw [Int.fdiv_eq_ediv_of_nonneg _ (by omega)]; exact q)

theorem mulL {a b : Int} (h1 : -(2 ^ 64) < a) (h2 : a < 2 ^ 64) : IntMulOk a b := IntMulOk.of_left (intBits_le_64 h1 h2)
/-- the script's first number, 0 where there is none -/
noncomputable def first0 (ns : List Int) : Int := ns.headD 0
theorem first0_get (ns : List Int) : (ns.map D.int ++ [D.int 0])[(0 : Int).toNat]? = some (.int (first0 ns)) := by
  cases ns <;> rfl

theorem cut_map {ns : List Int} {lo hi : Option Int} : cut (ns.map D.int) lo hi = (cut ns lo hi).map D.int := by
  simp [cut, List.map_drop, List.map_take]
theorem cut_length_le {α : Type} (xs : List α) (lo hi : Option Int) : (cut xs lo hi).length ≤ xs.length := by
  simp only [cut, List.length_take, List.length_drop]; omega

theorem take_three (l : List Int) (h : 1 ≤ l.length) : ∃ a b c : Int, (l ++ [0, 0]).take 3 = [a, b, c] ∧ (∀ x ∈ [a, b, c], x ∈ l ∨ x = 0) := by
  match l, h with
  | [x], _ => exact ⟨x, 0, 0, rfl, by simp⟩
  | [x, y], _ => exact ⟨x, y, 0, rfl, by simp⟩
  | x :: y :: z :: r, _ => exact ⟨x, y, z, rfl, by simp⟩

/-- (cells[k:k + 3] + [0, 0])[:3] -/
theorem cut_three (ns : List Int) (k : Int) (h0 : 0 ≤ k) (h : k < ns.length) :
    ∃ a b c : Int, cut (cut (ns.map D.int) (some k) (some (k + 3)) ++ [.int 0, .int 0]) none (some 3) = [.int a, .int b, .int c] := by
  rw [cut_map]
  have hl : 1 ≤ (cut ns (some k) (some (k + 3))).length := by
    simp only [cut, List.length_take, List.length_drop, Option.elim]
    unfold clipAt
    rw [if_neg (by omega), if_neg (by omega)]
    omega
  obtain ⟨a, b, c, e, _⟩ := take_three _ hl
  refine ⟨a, b, c, ?_⟩
  rw [show (cut ns (some k) (some (k + 3))).map D.int ++ [D.int 0, D.int 0] = ((cut ns (some k) (some (k + 3))) ++ [0, 0]).map D.int by simp, cut_map]
  have : cut (cut ns (some k) (some (k + 3)) ++ [0, 0]) none (some 3) = ((cut ns (some k) (some (k + 3))) ++ [0, 0]).take 3 := by
    generalize hg : cut ns (some k) (some (k + 3)) ++ [0, 0] = l
    have : 3 ≤ l.length := by rw [← hg]; simp; omega
    simp only [cut, Option.elim, List.drop_zero, Nat.sub_zero]
    unfold clipAt
    rw [if_neg (by omega)]
    congr 1
    omega
  rw [this, e]; rfl

theorem rangeD_get {a b c : Int} {i : Nat} {d : D} (h : (rangeD a b c)[i]? = some d) : d = .int (a + i * c) ∧ i < (Builtin.Range.rangeSize a b c).toNat := by
  unfold rangeD at h
  rw [List.getElem?_map] at h
  cases hi : (List.range (Builtin.Range.rangeSize a b c).toNat)[i]? with
  | none => rw [hi] at h; cases h
  | some j =>
    rw [hi] at h
    have hlt : i < (Builtin.Range.rangeSize a b c).toNat := by
      rcases Nat.lt_or_ge i (Builtin.Range.rangeSize a b c).toNat with q | q
      · exact q
      · rw [List.getElem?_eq_none (by simpa using q)] at hi; cases hi
    rw [List.getElem?_range hlt] at hi
    cases hi
    cases h
    exact ⟨rfl, hlt⟩
theorem rangeD_length (a b c : Int) : (rangeD a b c).length = (Builtin.Range.rangeSize a b c).toNat := by simp [rangeD]
theorem rangeD3_get {n : Nat} {i : Nat} {d : D} (h : (rangeD 0 n 3)[i]? = some d) : d = .int (3 * i) ∧ 3 * (i : Int) < n := by
  obtain ⟨h1, h2⟩ := rangeD_get h
  refine ⟨by rw [h1]; congr 1; omega, ?_⟩
  unfold Builtin.Range.rangeSize at h2
  rw [if_pos (by omega)] at h2
  split at h2
  · omega
  · simp at h2
theorem rangeD3_length (n : Nat) : (rangeD 0 n 3).length ≤ n := by
  rw [rangeD_length]; unfold Builtin.Range.rangeSize
  rw [if_pos (by omega)]; split <;> omega
theorem setAll_noOwn {σ : Store} (h : NoOwn σ) : ∀ (xs : List Str) (ds : List D), NoOwn (setAll σ xs ds) := by
  intro xs
  induction xs generalizing σ with
  | nil => intro ds; cases ds <;> exact h
  | cons x xs ih => intro ds; cases ds with
    | nil => exact h
    | cons d ds => exact ih (h.set x d) ds
theorem own_params {xs : List Str} {ds : List D} (x : Str) : OwnOnly x (paramsAre xs ds) := (setAll_noOwn (fun _ _ e => by cases e) xs ds).only x

theorem mod_bd (a : Int) {top : Int} (ht : 1 ≤ top := by omega) : 0 ≤ a % (top + 1) ∧ a % (top + 1) ≤ top :=
  ⟨Int.emod_nonneg _ (by omega), by have := Int.emod_lt_of_pos a (b := top + 1) (by omega); omega⟩
theorem Rm.less {j k : Nat} (r : Rm k A) (h : j ≤ k := by omega) : Rm j A := ⟨r.handled, by have := r.depth; omega, by have := r.units; omega⟩
theorem small1023 {a : Int} (h1 : -(2 ^ 200) < a) (h2 : a < 2 ^ 200) : a.natAbs < 2 ^ 1023 :=
  Nat.lt_of_lt_of_le (m := 2 ^ 200) (by omega) (Nat.pow_le_pow_right (by decide) (by decide))
theorem BO_div_s {a b : Int} {Q : D → Prop} (hA : A.handled = none) (h1 : -(2 ^ 200) < a) (h2 : a < 2 ^ 200) (hb : b ≠ 0) (q : Q (.flt (divI a b))) : BO prog w A .Div (.int a) (.int b) Q := BO_div_ii hA (small1023 h1 h2) hb q
theorem BO_mul_s {a : Int} {b : UInt64} {Q : D → Prop} (h1 : -(2 ^ 200) < a) (h2 : a < 2 ^ 200) (q : Q (.flt (Float64.mul (Float64.ofInt a) b))) : BO prog w A .Mult (.int a) (.flt b) Q := BO_mul_if (small1023 h1 h2) q
end
end Mine

end
section
open PySem PySem.W PySem.Calls PyProof.Rows PySem.SeqAt
namespace Mine
section
variable {prog : Program} {w : World} {B : Shared} {A : Around} {env : Env} {σ : Store}

end
end Mine

end
section
open PySem PySem.W PySem.Calls PyProof.Rows PySem.SeqAt
namespace Mine
section
variable {prog : Program} {w : World} {B : Shared} {A : Around} {env : Env} {σ : Store}

theorem Kp.walked {s : Shared} {h' : Heap} {tk : Nat} (hk : ∀ c o, s.heap.get? c = some o → h'.get? c = some o) (ht : s.toks ≤ tk) : Kp s { s with heap := h', toks := tk } := ⟨⟨h', tk, rfl, ht⟩, hk⟩

theorem WC_max_ii {a b : Int} {Q : D → Prop} (hA : A.handled = none) (q : Q (.int (max a b))) : WC prog w B A (.builtin "max") [.int a, .int b] Q := fun X s vals g r => by
  obtain ⟨v, r₁, rfl, h1, v', r₂, rfl, h2, h3⟩ := r
  cases h3
  obtain ⟨t, rfl⟩ := h1.int_inv; obtain ⟨u, rfl⟩ := h2.int_inv
  refine wpAny_with_toks (n := s.toks) (Nat.le_refl _) (max_two_ints hA fun h' tk hk ht => ⟨Kp.walked hk ht, .int (max a b), ?_, q⟩)
  by_cases h : b > a
  · rw [if_pos h, show max a b = b by omega]; exact rep_int
  · rw [if_neg h, show max a b = a by omega]; exact rep_int
theorem WC_min_ii {a b : Int} {Q : D → Prop} (hA : A.handled = none) (q : Q (.int (min a b))) : WC prog w B A (.builtin "min") [.int a, .int b] Q := fun X s vals g r => by
  obtain ⟨v, r₁, rfl, h1, v', r₂, rfl, h2, h3⟩ := r
  cases h3
  obtain ⟨t, rfl⟩ := h1.int_inv; obtain ⟨u, rfl⟩ := h2.int_inv
  refine wpAny_with_toks (n := s.toks) (Nat.le_refl _) (min_two_ints hA fun h' tk hk ht => ⟨Kp.walked hk ht, .int (min a b), ?_, q⟩)
  by_cases h : b < a
  · rw [if_pos h, show min a b = b by omega]; exact rep_int
  · rw [if_neg h, show min a b = a by omega]; exact rep_int

/-- the greater of two floats, the first where neither is -/
noncomputable def mx (a b : UInt64) : UInt64 := if (Float64.cmp a b == some .lt) = true then b else a
/-- the lesser of two floats, the first where neither is -/
noncomputable def mn (a b : UInt64) : UInt64 := if (Float64.cmp b a == some .lt) = true then b else a

theorem WC_max_fff {a b c : UInt64} {Q : D → Prop} (hA : A.handled = none) (q : Q (.flt (mx (mx a b) c))) : WC prog w B A (.builtin "max") [.flt a, .flt b, .flt c] Q := fun X s vals g r => by
  obtain ⟨v, r₁, rfl, h1, v', r₂, rfl, h2, v'', r₃, rfl, h3, h4⟩ := r
  cases h4
  obtain ⟨t, rfl, ht⟩ := h1.flt_inv; obtain ⟨u, rfl, hu⟩ := h2.flt_inv; obtain ⟨x, rfl, hx⟩ := h3.flt_inv
  have hT : (s.heap.push { cls := .type "tuple", data := .seq #[.float a t, .float b u, .float c x] }).IsTuple s.heap.objs.size #[.float a t, .float b u, .float c x] := ⟨_, Heap.get?_push_size _ rfl, rfl, 0, rfl⟩
  refine wpAny_with_toks (n := s.toks) (Nat.le_refl _) (call_max_three (wpAny_pyIter_tuple hT ?_))
  have hsz : (s.heap.push { cls := .type "tuple", data := .seq #[.float a t, .float b u, .float c x] }).objs.size = s.heap.objs.size + 1 := Heap.size_push ..
  refine ⟨_, [_, s.heap.objs.size], [_], _, _, _, _, rfl, Walks.tuple (A := A.in1) hA _ s.heap.objs.size (by rw [hsz]; exact Nat.ne_of_lt (Nat.lt_succ_self _)) #[.float a t, .float b u, .float c x],
    ⟨⟨_, Heap.get?_push_size _ rfl, rfl, rfl⟩, hT.push _⟩, fun d hd => ?_, by simp, PySem.Flt.cmpOf_gt #[.float a t, .float b u, .float c x] (fun v hv => ?_), fun v h' tk hP hk htk => ?_⟩
  · show d < ((s.heap.push _).push _).objs.size
    rw [Heap.size_push, hsz]
    simp only [List.mem_cons, List.not_mem_nil, or_false] at hd
    rcases hd with rfl | rfl
    · rw [hsz]; exact Nat.lt_succ_self _
    · exact Nat.lt_succ_of_lt (Nat.lt_succ_self _)
  · simp only [List.mem_toArray, List.mem_cons, List.not_mem_nil, or_false] at hv
    rcases hv with rfl | rfl | rfl <;> exact .float _ _
  · refine ⟨Kp.walked (fun d o e => hk d o (fun hm => ?_) (Heap.get?_push_of_some _ (Heap.get?_push_of_some _ e))) htk, _, ?_, q⟩
    · simp only [List.mem_cons, List.not_mem_nil, or_false] at hm
      have := Heap.lt_size e; rw [hm, hsz] at this; exact Nat.lt_irrefl _ (Nat.lt_of_succ_lt this)
    · have e1 : ∀ p q : UInt64, ∀ t u : Tok, PySem.Flt.ltV (.float p t) (.float q u) = (Float64.cmp p q == some .lt) := fun _ _ _ _ => rfl
      unfold mx
      cases hc : (Float64.cmp a b == some .lt) <;> cases hd : (Float64.cmp a c == some .lt) <;> cases he : (Float64.cmp b c == some .lt) <;> simp [argBest, e1, hc, hd, he] at hP ⊢ <;> subst hP <;> exact ⟨_, rfl, by assumption⟩

theorem WC_min_fff {a b c : UInt64} {Q : D → Prop} (hA : A.handled = none) (q : Q (.flt (mn (mn a b) c))) : WC prog w B A (.builtin "min") [.flt a, .flt b, .flt c] Q := fun X s vals g r => by
  obtain ⟨v, r₁, rfl, h1, v', r₂, rfl, h2, v'', r₃, rfl, h3, h4⟩ := r
  cases h4
  obtain ⟨t, rfl, ht⟩ := h1.flt_inv; obtain ⟨u, rfl, hu⟩ := h2.flt_inv; obtain ⟨x, rfl, hx⟩ := h3.flt_inv
  have hT : (s.heap.push { cls := .type "tuple", data := .seq #[.float a t, .float b u, .float c x] }).IsTuple s.heap.objs.size #[.float a t, .float b u, .float c x] := ⟨_, Heap.get?_push_size _ rfl, rfl, 0, rfl⟩
  refine wpAny_with_toks (n := s.toks) (Nat.le_refl _) (call_min_three (wpAny_pyIter_tuple hT ?_))
  have hsz : (s.heap.push { cls := .type "tuple", data := .seq #[.float a t, .float b u, .float c x] }).objs.size = s.heap.objs.size + 1 := Heap.size_push ..
  refine ⟨_, [_, s.heap.objs.size], [_], _, _, _, _, rfl, Walks.tuple (A := A.in1) hA _ s.heap.objs.size (by rw [hsz]; exact Nat.ne_of_lt (Nat.lt_succ_self _)) #[.float a t, .float b u, .float c x],
    ⟨⟨_, Heap.get?_push_size _ rfl, rfl, rfl⟩, hT.push _⟩, fun d hd => ?_, by simp, PySem.Flt.cmpOf_lt #[.float a t, .float b u, .float c x] (fun v hv => ?_), fun v h' tk hP hk htk => ?_⟩
  · show d < ((s.heap.push _).push _).objs.size
    rw [Heap.size_push, hsz]
    simp only [List.mem_cons, List.not_mem_nil, or_false] at hd
    rcases hd with rfl | rfl
    · rw [hsz]; exact Nat.lt_succ_self _
    · exact Nat.lt_succ_of_lt (Nat.lt_succ_self _)
  · simp only [List.mem_toArray, List.mem_cons, List.not_mem_nil, or_false] at hv
    rcases hv with rfl | rfl | rfl <;> exact .float _ _
  · refine ⟨Kp.walked (fun d o e => hk d o (fun hm => ?_) (Heap.get?_push_of_some _ (Heap.get?_push_of_some _ e))) htk, _, ?_, q⟩
    · simp only [List.mem_cons, List.not_mem_nil, or_false] at hm
      have := Heap.lt_size e; rw [hm, hsz] at this; exact Nat.lt_irrefl _ (Nat.lt_of_succ_lt this)
    · have e1 : ∀ p q : UInt64, ∀ t u : Tok, PySem.Flt.ltV (.float p t) (.float q u) = (Float64.cmp p q == some .lt) := fun _ _ _ _ => rfl
      unfold mn
      cases hc : (Float64.cmp b a == some .lt) <;> cases hd : (Float64.cmp c a == some .lt) <;> cases he : (Float64.cmp c b == some .lt) <;> simp [argBest, e1, hc, hd, he] at hP ⊢ <;> subst hP <;> exact ⟨_, rfl, by assumption⟩

end
end Mine

end
section
open PySem PySem.W PySem.Calls PyProof.Rows PySem.SeqAt
namespace Mine
section
variable {prog : Program} {w : World} {B : Shared} {A : Around} {env : Env} {σ : Store}

theorem bits2 : Builtin.Int.intBits 2 = 2 := by decide
theorem BO_pow2 {b : Int} {Q : D → Prop} (h0 : 0 ≤ b) (h1 : b ≤ 2000) (q : Q (.int (2 ^ b.toNat))) : BO prog w A .Pow (.int 2) (.int b) Q :=
  BO_pow_ii h0 (by rw [bits2]; omega) q
theorem big1023 {n : Nat} (h : n ≤ 1022) : ((2 : Int) ^ n).natAbs < 2 ^ 1023 := by
  rw [Int.natAbs_pow]; exact Nat.pow_lt_pow_right (by decide) (by omega)
end
end Mine

end
section
open PySem PySem.W PySem.Calls PyProof.Rows PySem.SeqAt
namespace Mine
section
variable {prog : Program} {w : World} {B : Shared} {A : Around} {env : Env} {σ : Store}

theorem BO_pow_eq {a b c : Int} {Q : D → Prop} (e : a ^ b.toNat = c) (hb : 0 ≤ b) (hsz : (Builtin.Int.intBits a : Int) * b ≤ 2 ^ 27) (q : Q (.int c)) : BO prog w A .Pow (.int a) (.int b) Q :=
  BO_pow_ii hb hsz (by rw [e]; exact q)
theorem pow41 : (2 : Int) ^ (41 : Int).toNat = 2199023255552 := by decide
end
end Mine

end
section
open PySem PySem.Float64
namespace Mine

/-- the scale of the smallest float -/
noncomputable def S : Nat := 2 ^ 1074
theorem S_pos : (0 : Rat) < (S : Rat) := Rat.natCast_pos.mpr (Nat.two_pow_pos _)
theorem S_ne : (S : Rat) ≠ 0 := fun h => by have := S_pos; rw [h] at this; exact Rat.lt_irrefl this
/-- a float's value -/
noncomputable def fv (x : UInt64) : Rat := (val x : Rat) / (S : Rat)
theorem fv_S (x : UInt64) : fv x * S = (val x : Rat) := Rat.div_mul_cancel S_ne
noncomputable abbrev FF (x : UInt64) : Prop := Float64.isFinite x = true
theorem FF.dec {x : UInt64} (h : FF x) : ∃ a m e, decode x = .fin a m e := by
  unfold FF isFinite at h
  cases hd : decode x with
  | fin a m e => exact ⟨a, m, e, rfl⟩
  | _ => rw [hd] at h; cases h
theorem FF.of {x : UInt64} {a : Bool} {m : Nat} {e : Int} (h : decode x = .fin a m e) : FF x := by unfold FF isFinite; rw [h]

/-- what a float can say (but for the ceiling) -/
noncomputable def Rp (f : Rat) : Prop := ∃ (m : Int) (k : Nat), m.natAbs ≤ 2 ^ 53 ∧ f * S = m * (2 ^ k : Nat)

theorem V_repr : ∀ (k m : Nat), m ≤ 2 ^ 53 → ∃ t, V t = m * 2 ^ k
  | 0, m, h => ⟨_, V_at (k := 0) h (.inr rfl)⟩
  | k + 1, m, h => by
    by_cases h2 : 2 ^ 52 ≤ m
    · exact ⟨_, V_at h (.inl h2)⟩
    · obtain ⟨t, ht⟩ := V_repr k (2 * m) (by omega)
      exact ⟨t, by rw [ht, Nat.pow_succ, Nat.mul_comm 2 m, Nat.mul_assoc, Nat.mul_comm 2]⟩

theorem sgn_cast (a : Bool) (m : Nat) : ((sgn a m : Int) : Rat) = if a then -(m : Rat) else m := by
  cases a
  · rfl
  · show ((-(m : Int) : Int) : Rat) = -(m : Rat)
    rw [Rat.intCast_neg]; rfl

theorem Rp_fv {x : UInt64} (h : FF x) : Rp (fv x) := by
  obtain ⟨a, m, e, hd⟩ := h.dec
  refine ⟨sgn a m, (e + 1074).toNat, ?_, ?_⟩
  · rw [sgn_natAbs]; exact Nat.le_of_lt (decode_le hd).1
  · rw [fv_S, val_eq hd, sgn_mul]
    rw [Rat.intCast_mul]; rfl

/-- r is what q is rounded to -/
noncomputable def Rd (r : UInt64) (q : Rat) : Prop := ∃ (neg : Bool) (W D : Nat), 0 < D ∧ Right r neg W D ∧ q * ((D : Rat) * S) = ((sgn neg W : Int) : Rat)

theorem natAbs_sgn (i : Int) : sgn (decide (i < 0)) i.natAbs = i := by unfold sgn; split <;> rename_i h <;> simp at h <;> omega

theorem zero_right (neg : Bool) : Right (zero neg) neg 0 1 := by
  refine ⟨0, rfl, by unfold infMag; omega, ⟨fun h => by unfold infMag at h; omega, fun h => ?_⟩, fun _ t' => ⟨by rw [V_zero]; simp [Float64.dist], fun h1 h2 => rfl⟩⟩
  have : 0 < (2 ^ 54 - 1) * 2 ^ 2045 := Nat.mul_pos (by decide) (Nat.two_pow_pos _)
  omega

theorem Rd_sum {r : UInt64} {i : Int} {neg : Bool} (h0 : i = 0 → r = zero neg) (h1 : i ≠ 0 → Right r (decide (i < 0)) i.natAbs 1) : Rd r ((i : Rat) / S) := by
  by_cases h : i = 0
  · refine ⟨neg, 0, 1, by decide, by rw [h0 h]; exact zero_right neg, ?_⟩
    subst h
    have : sgn neg 0 = 0 := by unfold sgn; cases neg <;> rfl
    rw [this]
    simp [Rat.div_def]
  · refine ⟨_, _, 1, by decide, h1 h, ?_⟩
    rw [natAbs_sgn]
    show (i : Rat) / S * (((1 : Nat) : Rat) * S) = i
    rw [show ((1 : Nat) : Rat) = 1 from rfl, Rat.one_mul, Rat.div_mul_cancel S_ne]

theorem Rd_add {x y : UInt64} (hx : FF x) (hy : FF y) : Rd (Float64.add x y) (fv x + fv y) := by
  obtain ⟨a, m, e, h1⟩ := hx.dec; obtain ⟨b, k, f, h2⟩ := hy.dec
  have h := add_right h1 h2
  have := Rd_sum h.1 h.2
  rwa [show ((val x + val y : Int) : Rat) / S = fv x + fv y by unfold fv; rw [Rat.intCast_add]; have := S_ne; grind] at this
theorem Rd_sub {x y : UInt64} (hx : FF x) (hy : FF y) : Rd (Float64.sub x y) (fv x - fv y) := by
  obtain ⟨a, m, e, h1⟩ := hx.dec; obtain ⟨b, k, f, h2⟩ := hy.dec
  have h := sub_right h1 h2
  have := Rd_sum h.1 h.2
  rwa [show ((val x - val y : Int) : Rat) / S = fv x - fv y by unfold fv; rw [Rat.intCast_sub]; have := S_ne; grind] at this

theorem sgn_xor (a b : Bool) (m k : Nat) : sgn (a != b) (m * k) = sgn a m * sgn b k := by
  unfold sgn; cases a <;> cases b <;> simp <;> grind
theorem val_sgn {x : UInt64} {a : Bool} {m : Nat} {e : Int} (h : decode x = .fin a m e) : sgn a (val x).natAbs = val x := by rw [val_natAbs h, val_eq h]

theorem Rd_mul {x y : UInt64} (hx : FF x) (hy : FF y) : Rd (Float64.mul x y) (fv x * fv y) := by
  obtain ⟨a, m, e, h1⟩ := hx.dec; obtain ⟨b, k, f, h2⟩ := hy.dec
  refine ⟨_, _, _, Nat.two_pow_pos _, mul_right h1 h2, ?_⟩
  rw [sgn_xor, val_sgn h1, val_sgn h2, Rat.intCast_mul, ← fv_S x, ← fv_S y]
  show fv x * fv y * ((S : Rat) * S) = _
  grind
theorem Rd_div {x y : UInt64} (hx : FF x) (hy : FF y) (h0 : fv y ≠ 0) : Rd (Float64.div x y) (fv x / fv y) := by
  obtain ⟨a, m, e, h1⟩ := hx.dec; obtain ⟨b, k, f, h2⟩ := hy.dec
  have hv : val y ≠ 0 := fun h => h0 (by unfold fv; rw [h]; simp [Rat.div_def])
  have hk : k ≠ 0 := fun h => hv (by rw [val_eq h2, h]; unfold sgn; simp)
  refine ⟨_, _, _, by omega, div_right h1 h2 hk, ?_⟩
  have ey : (((val y).natAbs : Nat) : Rat) = if b then -(fv y * S) else fv y * S := by
    have := val_sgn h2
    have h3 := sgn_cast b (val y).natAbs
    rw [this, ← fv_S y] at h3
    cases b <;> simp at h3 ⊢ <;> grind
  have ex : (((val x).natAbs : Nat) : Rat) = if a then -(fv x * S) else fv x * S := by
    have := val_sgn h1
    have h3 := sgn_cast a (val x).natAbs
    rw [this, ← fv_S x] at h3
    cases a <;> simp at h3 ⊢ <;> grind
  rw [sgn_cast, Rat.natCast_mul, ey, ex]
  rw [show ((2 ^ 1074 : Nat) : Rat) = S from rfl]
  have : fv x / fv y * fv y = fv x := Rat.div_mul_cancel h0
  cases a <;> cases b <;> simp <;> grind

theorem Rd_frac {a b : Int} (hb : b ≠ 0) : Rd (divI a b) ((a : Rat) / b) := by
  refine ⟨_, a.natAbs * 2 ^ 1074, b.natAbs, by omega, ofFrac_right (by omega) rfl (by omega), ?_⟩
  have hb' : (b : Rat) ≠ 0 := fun h => hb (Rat.intCast_eq_zero_iff.mp h)
  have h1 : ((b.natAbs : Nat) : Rat) = if b < 0 then -(b : Rat) else b := by
    rw [← Rat.intCast_natCast]
    split
    · rw [show ((b.natAbs : Nat) : Int) = -b by omega, Rat.intCast_neg]
    · rw [show ((b.natAbs : Nat) : Int) = b by omega]
  have h2 : ((a.natAbs : Nat) : Rat) = if a < 0 then -(a : Rat) else a := by
    rw [← Rat.intCast_natCast]
    split
    · rw [show ((a.natAbs : Nat) : Int) = -a by omega, Rat.intCast_neg]
    · rw [show ((a.natAbs : Nat) : Int) = a by omega]
  rw [sgn_cast, Rat.natCast_mul, h1, h2, show ((2 ^ 1074 : Nat) : Rat) = S from rfl]
  have : (a : Rat) / b * b = a := Rat.div_mul_cancel hb'
  by_cases ha : a < 0 <;> by_cases hb : b < 0 <;> simp [ha, hb] <;> grind
theorem Rd_int (a : Int) : Rd (Float64.ofInt a) (a : Rat) := by
  refine ⟨_, _, 1, by decide, ofInt_right a, ?_⟩
  rw [show sgn (decide (a < 0)) (a.natAbs * 2 ^ 1074) = a * (2 ^ 1074 : Nat) by rw [sgn_mul, natAbs_sgn]]
  rw [Rat.intCast_mul]
  show (a : Rat) * (((1 : Nat) : Rat) * S) = _
  rw [show ((1 : Nat) : Rat) = 1 from rfl, Rat.one_mul]
  rfl
end Mine

end
section
open PySem PySem.Float64
namespace Mine

theorem cast_le {a b : Nat} (h : a ≤ b) : (a : Rat) ≤ b := Rat.natCast_le_natCast.mpr h
theorem icast_le {a b : Int} (h : a ≤ b) : (a : Rat) ≤ b := Rat.intCast_le_intCast.mpr h
theorem pow_cast (n : Nat) : ((2 ^ n : Nat) : Rat) = (2 : Rat) ^ n := by rw [Rat.natCast_pow]; rfl

theorem not_fin_inf (neg : Bool) : Float64.isFinite (pack neg infMag) = false := by
  cases neg <;> decide +kernel

theorem Rd.fin {r : UInt64} {q : Rat} (h : Rd r q) (h1 : -(2 : Rat) ^ 1000 ≤ q) (h2 : q ≤ (2 : Rat) ^ 1000) : FF r := by
  obtain ⟨neg, W, D, hD, ⟨t, e, hle, hinf, hn⟩, hq⟩ := h
  have hu : (0 : Rat) < (D : Rat) * S := Rat.mul_pos (Rat.natCast_pos.mpr hD) S_pos
  have hW : (W : Rat) ≤ (2 : Rat) ^ 1000 * ((D : Rat) * S) := by
    rw [sgn_cast] at hq
    have a1 := Rat.mul_le_mul_of_nonneg_right h2 (Rat.le_of_lt hu)
    have a2 := Rat.mul_le_mul_of_nonneg_right h1 (Rat.le_of_lt hu)
    cases neg <;> simp at hq <;> grind
  have hWn : W ≤ 2 ^ 1000 * (D * 2 ^ 1074) := by
    apply Rat.natCast_le_natCast.mp
    rw [Rat.natCast_mul, Rat.natCast_mul, pow_cast 1000]
    exact hW
  have ht : t ≠ infMag := fun z => by
    have h3 := hinf.mp z
    have e1 : 2 ^ 1000 * (D * 2 ^ 1074) = D * 2 ^ 2074 := by rw [Nat.mul_left_comm, ← Nat.pow_add]
    have e2 : (2 ^ 54 - 1) * 2 ^ 2045 = (2 ^ 54 - 1) * 2 ^ 2045 := rfl
    have e3 : (2 : Nat) ^ 2074 = 2 ^ 29 * 2 ^ 2045 := by rw [← Nat.pow_add]
    rw [e1, e3] at hWn
    have h4 : D * ((2 ^ 54 - 1) * 2 ^ 2045) ≤ 2 * (D * (2 ^ 29 * 2 ^ 2045)) := Nat.le_trans h3 (Nat.mul_le_mul_left 2 hWn)
    have hp : 0 < D * 2 ^ 2045 := Nat.mul_pos hD (Nat.two_pow_pos _)
    have e4 : D * ((2 ^ 54 - 1) * 2 ^ 2045) = (2 ^ 54 - 1) * (D * 2 ^ 2045) := Nat.mul_left_comm ..
    have e5 : D * (2 ^ 29 * 2 ^ 2045) = 2 ^ 29 * (D * 2 ^ 2045) := Nat.mul_left_comm ..
    rw [e4, e5] at h4
    generalize D * 2 ^ 2045 = z at *
    omega
  obtain ⟨m, e', hd, _⟩ := decode_pack neg (t := t) (by omega)
  rw [e]; exact FF.of hd

theorem dist_cases {x y z : Nat} (h : Float64.dist x y ≤ Float64.dist x z) : ((x : Rat) - y ≤ x - z ∧ (y : Rat) - x ≤ x - z ∧ (z : Rat) ≤ x) ∨ ((x : Rat) - y ≤ z - x ∧ (y : Rat) - x ≤ z - x ∧ (x : Rat) ≤ z) := by
  unfold Float64.dist at h
  have key : ((x : Int) - y ≤ x - z ∧ (y : Int) - x ≤ x - z ∧ (z : Int) ≤ x) ∨ ((x : Int) - y ≤ z - x ∧ (y : Int) - x ≤ z - x ∧ (x : Int) ≤ z) := by omega
  rcases key with ⟨h1, h2, h3⟩ | ⟨h1, h2, h3⟩
  · left
    have h1 := icast_le h1; have h2 := icast_le h2; have h3 := icast_le h3
    simp only [Rat.intCast_sub, Rat.intCast_natCast] at h1 h2 h3
    exact ⟨h1, h2, h3⟩
  · right
    have h1 := icast_le h1; have h2 := icast_le h2; have h3 := icast_le h3
    simp only [Rat.intCast_sub, Rat.intCast_natCast] at h1 h2 h3
    exact ⟨h1, h2, h3⟩

/-- what a finite rounding is -/
theorem Rd.parts {r : UInt64} {q : Rat} (h : Rd r q) (hf : FF r) : ∃ (neg : Bool) (W D t : Nat), 0 < D ∧ (0 : Rat) < (D : Rat) * S ∧ q * ((D : Rat) * S) = (if neg then -(W : Rat) else W) ∧ fv r * ((D : Rat) * S) = (if neg then -((D * V t : Nat) : Rat) else ((D * V t : Nat) : Rat)) ∧
    ∀ t', Float64.dist W (D * V t) ≤ Float64.dist W (D * V t') ∧ (V t' ≠ V t → Float64.dist W (D * V t) = Float64.dist W (D * V t') → t % 2 = 0) := by
  obtain ⟨neg, W, D, hD, ⟨t, e, hle, hinf, hn⟩, hq⟩ := h
  have ht : t < infMag := by
    rcases Nat.lt_or_ge t infMag with z | z
    · exact z
    · have : t = infMag := by omega
      subst this
      rw [e] at hf
      have := not_fin_inf neg
      unfold FF at hf
      rw [hf] at this; cases this
  refine ⟨neg, W, D, t, hD, Rat.mul_pos (Rat.natCast_pos.mpr hD) S_pos, by rw [hq, sgn_cast], ?_, hn ht⟩
  have hv : fv r * S = if neg then -(V t : Rat) else V t := by rw [fv_S, e, val_pack neg ht, sgn_cast]
  rw [Rat.natCast_mul]
  cases neg <;> simp at hv ⊢ <;> grind

theorem Rd.near {r : UInt64} {q : Rat} (h : Rd r q) (hf : FF r) {f d : Rat} (hr : Rp f) (h1 : f - q ≤ d) (h2 : q - f ≤ d) : fv r - q ≤ d ∧ q - fv r ≤ d := by
  obtain ⟨neg, W, D, t, hD, hu, hq, hv, hn⟩ := h.parts hf
  obtain ⟨m, k, hm, hf'⟩ := hr
  obtain ⟨t', ht'⟩ := V_repr k m.natAbs hm
  have hd := dist_cases (hn t').1
  have hfu : f * ((D : Rat) * S) = if m < 0 then -((D * V t' : Nat) : Rat) else ((D * V t' : Nat) : Rat) := by
    rw [ht', Rat.natCast_mul, Rat.natCast_mul]
    have e : ((m.natAbs : Nat) : Rat) = if m < 0 then -(m : Rat) else m := by
      rw [← Rat.intCast_natCast]
      split
      · rw [show ((m.natAbs : Nat) : Int) = -m by omega, Rat.intCast_neg]
      · rw [show ((m.natAbs : Nat) : Int) = m by omega]
    rw [e]
    split <;> grind
  have a1 := Rat.mul_le_mul_of_nonneg_right h1 (Rat.le_of_lt hu)
  have a2 := Rat.mul_le_mul_of_nonneg_right h2 (Rat.le_of_lt hu)
  have p1 : (0 : Rat) ≤ W := Rat.natCast_nonneg
  have p2 : (0 : Rat) ≤ ((D * V t' : Nat) : Rat) := Rat.natCast_nonneg
  generalize ((D * V t' : Nat) : Rat) = z at *
  generalize ((D * V t : Nat) : Rat) = y at *
  generalize (W : Rat) = x at *
  have key : (fv r - q) * ((D : Rat) * S) ≤ d * ((D : Rat) * S) ∧ (q - fv r) * ((D : Rat) * S) ≤ d * ((D : Rat) * S) := by
    generalize (D : Rat) * S = u at *
    cases neg <;> by_cases hm : m < 0 <;> simp [hm] at hq hv hfu <;> rcases hd with ⟨h3, h4, h5⟩ | ⟨h3, h4, h5⟩ <;> constructor <;> grind
  exact ⟨Rat.le_of_mul_le_mul_right key.1 hu, Rat.le_of_mul_le_mul_right key.2 hu⟩

theorem Rd.exact {r : UInt64} {q : Rat} (h : Rd r q) (hf : FF r) (hq : Rp q) : fv r = q := by
  have := h.near hf (d := 0) hq (by grind) (by grind)
  grind
theorem Rd.le {r : UInt64} {q f : Rat} (h : Rd r q) (hf : FF r) (hr : Rp f) (hq : q ≤ f) : fv r ≤ f := by
  have := h.near hf (d := f - q) hr (by grind) (by grind)
  grind
theorem Rd.ge {r : UInt64} {q f : Rat} (h : Rd r q) (hf : FF r) (hr : Rp f) (hq : f ≤ q) : f ≤ fv r := by
  have := h.near hf (d := q - f) hr (by grind) (by grind)
  grind

/-- an error that is known by a power of two above the value -/
theorem Rd.err {r : UInt64} {q E : Rat} {n : Nat} (h : Rd r q) (hE : E * S = (2 ^ (n + 54) : Nat)) (hn : n + 54 ≤ 2074) (h1 : -E ≤ q) (h2 : q ≤ E) : FF r ∧ fv r - q ≤ E / 2 ^ 54 ∧ q - fv r ≤ E / 2 ^ 54 := by
  have hf : FF r := by
    have : E ≤ (2 : Rat) ^ 1000 := by
      apply Rat.le_of_mul_le_mul_right (c := (S : Rat)) _ S_pos
      rw [hE, ← pow_cast 1000, ← Rat.natCast_mul]
      refine cast_le (Nat.le_trans (Nat.pow_le_pow_right (n := 2) (by decide) hn) (Nat.le_of_eq ?_))
      unfold S
      rw [← Nat.pow_add]
    exact h.fin (by grind) (by grind)
  refine ⟨hf, ?_⟩
  -- the grid
  have hE' : E * S = (2 : Rat) ^ 53 * ((2 ^ (n + 1) : Nat) : Rat) := by
    rw [hE, ← pow_cast, ← Rat.natCast_mul, ← Nat.pow_add]; congr 2; omega
  have gp : (0 : Rat) < ((2 ^ (n + 1) : Nat) : Rat) := Rat.natCast_pos.mpr (Nat.two_pow_pos _)
  generalize hg : ((2 ^ (n + 1) : Nat) : Rat) = g at *
  have hgne : g ≠ 0 := by grind
  have m1 := Rat.floor_le (q * S / g + 1 / 2)
  have m2 := Rat.lt_floor_add_one (q * S / g + 1 / 2)
  generalize hm : (q * S / g + 1 / 2).floor = m at *
  rw [Rat.intCast_add, Rat.intCast_one] at m2
  have eq : q * S / g * g = q * S := Rat.div_mul_cancel hgne
  have b1 := Rat.mul_le_mul_of_nonneg_right h1 (Rat.le_of_lt S_pos)
  have b2 := Rat.mul_le_mul_of_nonneg_right h2 (Rat.le_of_lt S_pos)
  have c1 : q * S / g ≤ 2 ^ 53 := Rat.le_of_mul_le_mul_right (c := g) (by rw [eq]; grind) gp
  have c2 : -2 ^ 53 ≤ q * S / g := Rat.le_of_mul_le_mul_right (c := g) (by rw [eq]; grind) gp
  have hmb : m.natAbs ≤ 2 ^ 53 := by
    have d1 : (m : Rat) < ((2 ^ 53 + 1 : Int) : Rat) := by
      rw [show ((2 ^ 53 + 1 : Int) : Rat) = 2 ^ 53 + 1 from by decide +kernel]; grind
    have d2 : ((-2 ^ 53 - 1 : Int) : Rat) < (m : Rat) := by
      rw [show ((-2 ^ 53 - 1 : Int) : Rat) = -2 ^ 53 - 1 from by decide +kernel]; grind
    have d1 := Rat.intCast_lt_intCast.mp d1
    have d2 := Rat.intCast_lt_intCast.mp d2
    omega
  have hSne := S_ne
  have hr : Rp (m * g / S) := ⟨m, n + 1, hmb, by rw [Rat.div_mul_cancel hSne, hg]⟩
  have ef : m * g / S * S = m * g := Rat.div_mul_cancel hSne
  have x1 := Rat.mul_le_mul_of_nonneg_right m1 (Rat.le_of_lt gp)
  have x2 := Rat.mul_le_mul_of_nonneg_right (Rat.le_of_lt m2) (Rat.le_of_lt gp)
  have hE54 : E / 2 ^ 54 * S = g / 2 := by
    have : E / 2 ^ 54 * S = E * S / 2 ^ 54 := by grind
    rw [this, hE']; grind
  refine h.near hf hr ?_ ?_
  · apply Rat.le_of_mul_le_mul_right (c := (S : Rat)) _ S_pos
    rw [hE54]; grind
  · apply Rat.le_of_mul_le_mul_right (c := (S : Rat)) _ S_pos
    rw [hE54]; grind
end Mine

end
section
open PySem PySem.Float64
namespace Mine

theorem E_pow {a : Nat} (ha : a ≤ 1000) : (2 : Rat) ^ a * S = (2 ^ ((a + 1020) + 54) : Nat) := by
  rw [← pow_cast, ← Rat.natCast_mul]
  unfold S
  rw [← Nat.pow_add]
theorem pow_ne (a : Nat) : (2 : Rat) ^ a ≠ 0 := by
  have := Rat.pow_pos (a := 2) (n := a) (by decide)
  grind
theorem E_inv {a : Nat} (ha : a ≤ 1000) : (1 / 2 ^ a : Rat) * S = (2 ^ ((1020 - a) + 54) : Nat) := by
  have h : (2 : Rat) ^ a * (2 ^ ((1020 - a) + 54) : Nat) = S := by
    rw [← pow_cast, ← Rat.natCast_mul]
    unfold S
    rw [← Nat.pow_add]
    congr 2; omega
  have := pow_ne a
  grind
theorem Rd.errp {r : UInt64} {q : Rat} (a : Nat) (h : Rd r q) (h1 : -2 ^ a ≤ q) (h2 : q ≤ 2 ^ a) (ha : a ≤ 1000 := by decide) : FF r ∧ fv r - q ≤ 2 ^ a / 2 ^ 54 ∧ q - fv r ≤ 2 ^ a / 2 ^ 54 :=
  h.err (E_pow ha) (by omega) h1 h2
theorem Rd.erri {r : UInt64} {q : Rat} (a : Nat) (h : Rd r q) (h1 : -(1 / 2 ^ a) ≤ q) (h2 : q ≤ 1 / 2 ^ a) (ha : a ≤ 1000 := by decide) : FF r ∧ fv r - q ≤ 1 / 2 ^ a / 2 ^ 54 ∧ q - fv r ≤ 1 / 2 ^ a / 2 ^ 54 :=
  h.err (E_inv ha) (by omega) h1 h2
theorem Rd.err1 {r : UInt64} {q : Rat} (h : Rd r q) (h1 : -1 ≤ q) (h2 : q ≤ 1) : FF r ∧ fv r - q ≤ 1 / 2 ^ 54 ∧ q - fv r ≤ 1 / 2 ^ 54 := by
  have := h.errp 0 (by grind) (by grind)
  simpa using this
theorem Rd.err2 {r : UInt64} {q : Rat} (h : Rd r q) (h1 : -2 ≤ q) (h2 : q ≤ 2) : FF r ∧ fv r - q ≤ 1 / 2 ^ 53 ∧ q - fv r ≤ 1 / 2 ^ 53 := by
  have := h.errp 1 (by grind) (by grind)
  exact ⟨this.1, by grind, by grind⟩

theorem fv_lt {x y : UInt64} : fv x < fv y ↔ val x < val y := by
  constructor
  · intro h
    have := Rat.mul_lt_mul_of_pos_right h S_pos
    rw [fv_S, fv_S] at this
    exact Rat.intCast_lt_intCast.mp this
  · intro h
    apply Rat.lt_of_mul_lt_mul_right (c := (S : Rat)) _ (Rat.le_of_lt S_pos)
    rw [fv_S, fv_S]
    exact Rat.intCast_lt_intCast.mpr h
theorem fv_eq {x y : UInt64} : fv x = fv y ↔ val x = val y := by
  constructor
  · intro h
    have : fv x * S = fv y * S := by rw [h]
    rw [fv_S, fv_S] at this
    exact Rat.intCast_inj.mp this
  · intro h; unfold fv; rw [h]

theorem cmp_lt {x y : UInt64} (hx : FF x) (hy : FF y) : (Float64.cmp x y == some .lt) = decide (fv x < fv y) := by
  obtain ⟨a, m, e, h1⟩ := hx.dec; obtain ⟨b, k, f, h2⟩ := hy.dec
  rw [cmp_right h1 h2]
  by_cases h : val x < val y
  · rw [decide_eq_true (fv_lt.mpr h), Int.compare_eq_lt.mpr h]; rfl
  · rw [decide_eq_false (fun z => h (fv_lt.mp z))]
    cases hc : compare (val x) (val y) with
    | lt => exact absurd (Int.compare_eq_lt.mp hc) h
    | _ => rfl
theorem cmp_eq {x y : UInt64} (hx : FF x) (hy : FF y) : (Float64.cmp x y == some .eq) = decide (fv x = fv y) := by
  obtain ⟨a, m, e, h1⟩ := hx.dec; obtain ⟨b, k, f, h2⟩ := hy.dec
  rw [cmp_right h1 h2]
  by_cases h : val x = val y
  · rw [decide_eq_true (fv_eq.mpr h), Int.compare_eq_eq.mpr h]; rfl
  · rw [decide_eq_false (fun z => h (fv_eq.mp z))]
    cases hc : compare (val x) (val y) with
    | eq => exact absurd (Int.compare_eq_eq.mp hc) h
    | _ => rfl

theorem isZero_fv {x : UInt64} (hx : FF x) : Float64.isZero x = decide (fv x = 0) := by
  obtain ⟨a, m, e, h1⟩ := hx.dec
  unfold isZero
  rw [h1]
  have hv := val_eq h1
  by_cases hm : m = 0
  · subst hm
    have : val x = 0 := by rw [hv]; unfold sgn; cases a <;> simp
    have : fv x = 0 := by unfold fv; rw [this]; simp [Rat.div_def]
    rw [decide_eq_true this]; rfl
  · have hp : 0 < m * 2 ^ (e + 1074).toNat := Nat.mul_pos (by omega) (Nat.two_pow_pos _)
    have : val x ≠ 0 := by
      rw [hv]; generalize m * 2 ^ (e + 1074).toNat = z at hp
      unfold sgn; cases a <;> simp <;> omega
    rw [decide_eq_false fun z => this ?_]
    · split
      · rename_i h; cases h; exact absurd rfl hm
      · rfl
    · have z' : fv x * S = 0 := by rw [z]; grind
      rw [fv_S] at z'
      exact Rat.intCast_eq_zero_iff.mp z'

theorem fv_const {x : UInt64} {m : Int} {j k : Nat} (h : val x = m * 2 ^ j) (hjk : j + k = 1074) : fv x = (m : Rat) / 2 ^ k := by
  have h1 : fv x * S = m * (2 : Rat) ^ j := by rw [fv_S, h, Rat.intCast_mul, Rat.intCast_pow]; rfl
  have h2 : (S : Rat) = (2 : Rat) ^ j * 2 ^ k := by
    unfold S
    rw [← pow_cast, ← pow_cast, ← Rat.natCast_mul, ← Nat.pow_add, hjk]
  have := pow_ne j; have := pow_ne k
  rw [h2] at h1
  grind

/-- rounding to a whole number -/
theorem roundF_near {x : UInt64} {n : Int} (hx : FF x) (h1 : fv x - n < 1 / 2) (h2 : n - fv x < 1 / 2) : roundF x = n := by
  obtain ⟨s, m, e, hd⟩ := hx.dec
  unfold roundF PySem.Flt.toInt
  rw [hd]
  show sgn s (halfEven (Float64.shift m 1 e).1 (Float64.shift m 1 e).2) = n
  have hp := shift_pos m 1 e (by decide)
  have hs := shift_one m e 1074 (by have := decode_ge hd; omega)
  generalize (Float64.shift m 1 e).1 = a at *
  generalize (Float64.shift m 1 e).2 = d at *
  have hv := val_natAbs hd
  have hdp : (0 : Rat) < d := Rat.natCast_pos.mpr hp
  -- |fv x| * d = a
  have hfa : (if s then -(fv x) else fv x) * d = a := by
    have e1 : (a : Rat) * S = ((val x).natAbs : Rat) * d := by
      rw [hv]; show (a : Rat) * ((2 ^ 1074 : Nat) : Rat) = _
      rw [← Rat.natCast_mul, ← Rat.natCast_mul, hs]
      congr 1
    have e2 : (((val x).natAbs : Nat) : Rat) = if s then -(fv x * S) else fv x * S := by
      have := val_sgn hd
      have h3 := sgn_cast s (val x).natAbs
      rw [this, ← fv_S x] at h3
      cases s <;> simp at h3 ⊢ <;> grind
    rw [e2] at e1
    have := S_pos
    have hSne := S_ne
    cases s <;> simp at e1 ⊢ <;> grind
  have hn0 : if s then n ≤ 0 else 0 ≤ n := by
    have ha : (0 : Rat) ≤ a := Rat.natCast_nonneg
    have pos : (0 : Rat) ≤ (if s then -(fv x) else fv x) := Rat.le_of_mul_le_mul_right (c := (d : Rat)) (by rw [hfa]; simpa using ha) hdp
    cases s with
    | true =>
      simp only [if_true] at pos ⊢
      have : (n : Rat) < ((1 : Int) : Rat) := by rw [Rat.intCast_one]; grind
      have := Rat.intCast_lt_intCast.mp this
      omega
    | false =>
      simp only [Bool.false_eq_true, if_false] at pos ⊢
      have : ((-1 : Int) : Rat) < (n : Rat) := by rw [Rat.intCast_neg, Rat.intCast_one]; grind
      have := Rat.intCast_lt_intCast.mp this
      omega
  have hnear := dist_cases (halfEven_nearest a d hp n.natAbs)
  have hN : ((n.natAbs : Nat) : Rat) = if s then -(n : Rat) else n := by
    rw [← Rat.intCast_natCast]
    cases s <;> simp at hn0 ⊢
    · rw [show ((n.natAbs : Nat) : Int) = n by omega]
    · rw [show ((n.natAbs : Nat) : Int) = -n by omega, Rat.intCast_neg]
  generalize halfEven a d = k at *
  simp only [Rat.natCast_mul] at hnear
  -- d * |k - N| < d
  have key : ((k : Rat) - (n.natAbs : Nat)) * d < 1 * d ∧ ((n.natAbs : Nat) - (k : Rat)) * d < 1 * d := by
    have g1 := Rat.mul_lt_mul_of_pos_right h1 hdp
    have g2 := Rat.mul_lt_mul_of_pos_right h2 hdp
    cases s <;> simp at hN hfa <;> rw [hN] at hnear ⊢ <;> rcases hnear with ⟨x1, x2, x3⟩ | ⟨x1, x2, x3⟩ <;> constructor <;> grind
  have k1 := Rat.lt_of_mul_lt_mul_right key.1 (Rat.le_of_lt hdp)
  have k2 := Rat.lt_of_mul_lt_mul_right key.2 (Rat.le_of_lt hdp)
  have c1 : ((k : Int) : Rat) < ((n.natAbs + 1 : Int) : Rat) := by rw [Rat.intCast_add, Rat.intCast_one, Rat.intCast_natCast, Rat.intCast_natCast]; grind
  have c2 : ((n.natAbs : Int) : Rat) < ((k + 1 : Int) : Rat) := by rw [Rat.intCast_add, Rat.intCast_one, Rat.intCast_natCast, Rat.intCast_natCast]; grind
  have c1 := Rat.intCast_lt_intCast.mp c1
  have c2 := Rat.intCast_lt_intCast.mp c2
  have hk : k = n.natAbs := by omega
  rw [hk]
  unfold sgn
  cases s <;> simp at hn0 ⊢ <;> omega
end Mine

end
section
open PySem PySem.Float64
namespace Mine

end Mine

end
section
open PySem PySem.Float64
namespace Mine

/-- a fraction of the depth -/
theorem frac_err {t a : Int} (h1 : 1 ≤ t) (h0 : 0 ≤ a) (h2 : a ≤ t) : ∃ ρ : Rat, ρ * t = a ∧ 0 ≤ ρ ∧ ρ ≤ 1 ∧ FF (divI a t) ∧ fv (divI a t) - ρ ≤ 1 / 2 ^ 54 ∧ ρ - fv (divI a t) ≤ 1 / 2 ^ 54 ∧ 0 ≤ fv (divI a t) ∧ fv (divI a t) ≤ 1 := by
  have ht : (0 : Rat) < t := Rat.intCast_pos.mpr (by omega)
  have hne : (t : Rat) ≠ 0 := by grind
  have ha : (0 : Rat) ≤ a := Rat.intCast_nonneg.mpr h0
  have hat : (a : Rat) ≤ t := icast_le h2
  have e : (a : Rat) / t * t = a := Rat.div_mul_cancel hne
  have q0 : 0 ≤ (a : Rat) / t := Rat.le_of_mul_le_mul_right (c := (t : Rat)) (by rw [e]; grind) ht
  have q1 : (a : Rat) / t ≤ 1 := Rat.le_of_mul_le_mul_right (c := (t : Rat)) (by rw [e]; grind) ht
  have hr := Rd_frac (a := a) (b := t) (by omega)
  obtain ⟨f, p, q⟩ := hr.err1 (by grind) (by grind)
  refine ⟨_, e, q0, q1, f, p, q, ?_, ?_⟩
  · exact hr.ge f ⟨0, 0, by decide, by simp⟩ q0
  · exact hr.le f ⟨1, 1074, by decide, by rw [Rat.one_mul]; unfold S; rw [Rat.intCast_one, Rat.one_mul]⟩ q1

theorem int_exact {a : Int} (h1 : -(2 ^ 53) ≤ a) (h2 : a ≤ 2 ^ 53) : FF (Float64.ofInt a) ∧ fv (Float64.ofInt a) = a := by
  have hr := Rd_int a
  have c1 := icast_le h1
  have c2 := icast_le h2
  rw [show ((-(2 ^ 53) : Int) : Rat) = -2 ^ 53 from by decide +kernel] at c1
  rw [show ((2 ^ 53 : Int) : Rat) = 2 ^ 53 from by decide +kernel] at c2
  obtain ⟨f, _⟩ := hr.errp 53 c1 c2
  exact ⟨f, hr.exact f ⟨a, 1074, by omega, rfl⟩⟩

end Mine

end
section
open PySem PySem.Float64
namespace Mine

theorem fv0 : FF 0 ∧ fv 0 = 0 := ⟨by decide +kernel, by have := fv_const (x := 0) (m := 0) (j := 1074) (k := 0) (by decide +kernel) (by decide); rw [this]; decide +kernel⟩
theorem fv1 : FF 4607182418800017408 ∧ fv 4607182418800017408 = 1 := ⟨by decide +kernel, by have := fv_const (x := 4607182418800017408) (m := 1) (j := 1074) (k := 0) (by decide +kernel) (by decide); rw [this]; decide +kernel⟩

end Mine

end
section
open PySem PySem.Float64
namespace Mine

theorem one_Rp : Rp 1 := ⟨1, 1074, by decide, by rw [Rat.one_mul]; unfold S; rw [Rat.intCast_one, Rat.one_mul]⟩
theorem cmp_le {x y : UInt64} (hx : FF x) (hy : FF y) : (Float64.cmp x y == some .lt || Float64.cmp x y == some .eq) = decide (fv x ≤ fv y) := by
  rw [cmp_lt hx hy, cmp_eq hx hy]
  by_cases h1 : fv x < fv y
  · simp [h1, Rat.le_of_lt h1]
  · by_cases h2 : fv x = fv y
    · simp [h2]
    · have : ¬ fv x ≤ fv y := fun h => by grind
      simp [h1, h2, this]

end Mine

end
section
open PySem PySem.Float64
namespace Mine

end Mine

end
section
open PySem PySem.Float64
namespace Mine

/-- the distance -/
noncomputable def dd (x y : Rat) : Rat := if x ≤ y then y - x else x - y
/-- t is the nearest of the floats, the even one of two -/
noncomputable def Nr (x : Rat) (t : Nat) : Prop := (∀ t', dd x (V t : Nat) ≤ dd x (V t' : Nat)) ∧ ∀ t', V t' ≠ V t → dd x (V t : Nat) = dd x (V t' : Nat) → t % 2 = 0

theorem dd_scale {x y u : Rat} (hu : 0 < u) : dd (x * u) (y * u) = dd x y * u := by
  unfold dd
  by_cases h : x ≤ y
  · rw [if_pos h, if_pos (Rat.mul_le_mul_of_nonneg_right h (Rat.le_of_lt hu))]; grind
  · rw [if_neg h, if_neg (fun z => h (Rat.le_of_mul_le_mul_right z hu))]; grind
theorem dist_dd (x y : Nat) : ((Float64.dist x y : Nat) : Rat) = dd x y := by
  unfold Float64.dist dd
  by_cases h : (x : Rat) ≤ y
  · rw [if_pos h]
    have := Rat.natCast_le_natCast.mp h
    have e : ((x - y + (y - x) : Nat) : Int) = (y : Int) - x := by omega
    rw [← Rat.intCast_natCast, e, Rat.intCast_sub]; rfl
  · rw [if_neg h]
    have : ¬ x ≤ y := fun z => h (cast_le z)
    have e : ((x - y + (y - x) : Nat) : Int) = (x : Int) - y := by omega
    rw [← Rat.intCast_natCast, e, Rat.intCast_sub]; rfl

theorem Rd.nr {r : UInt64} {q : Rat} (h : Rd r q) (hf : FF r) : ∃ (neg : Bool) (t : Nat), fv r * S = (if neg then -(V t : Rat) else V t) ∧ Nr ((if neg then -q else q) * S) t ∧ 0 ≤ (if neg then -q else q) := by
  obtain ⟨neg, W, D, t, hD, hu, hq, hv, hn⟩ := h.parts hf
  have hDp : (0 : Rat) < D := Rat.natCast_pos.mpr hD
  have hDne : (D : Rat) ≠ 0 := by grind
  have ex : (if neg then -q else q) * S * D = W := by cases neg <;> simp at hq ⊢ <;> grind
  have key : ∀ t', ((Float64.dist W (D * V t') : Nat) : Rat) = dd ((if neg then -q else q) * S) (V t' : Nat) * D := fun t' => by
    rw [dist_dd, ← dd_scale hDp, ex, Rat.natCast_mul, Rat.mul_comm]
  refine ⟨neg, t, ?_, ⟨fun t' => ?_, fun t' h1 h2 => (hn t').2 h1 ?_⟩, ?_⟩
  · rw [Rat.natCast_mul] at hv
    cases neg <;> simp at hv ⊢ <;> grind
  · have := cast_le (hn t').1
    rw [key, key] at this
    exact Rat.le_of_mul_le_mul_right this hDp
  · apply Rat.natCast_inj.mp
    rw [key, key, h2]
  · have hW : (0 : Rat) ≤ W := Rat.natCast_nonneg
    have : 0 * ((D : Rat) * S) ≤ (if neg then -q else q) * ((D : Rat) * S) := by grind
    exact Rat.le_of_mul_le_mul_right this hu

theorem vcast_lt {t t' : Nat} (h : V t < V t') : ((V t : Nat) : Rat) < (V t' : Nat) := Rat.natCast_lt_natCast.mpr h
theorem nr_unique' {x : Rat} {t t' : Nat} (h : Nr x t) (h' : Nr x t') (hlt : t < t') : False := by
  have v := vcast_lt (V_lt hlt)
  have a := h.1 t'
  have b := h'.1 t
  have e : dd x (V t : Nat) = dd x (V t' : Nat) := by grind
  have p1 := h.2 t' (by have := V_lt hlt; omega) e
  have p2 := h'.2 t (by have := V_lt hlt; omega) e.symm
  have v1 := vcast_lt (V_succ t)
  have v2 := vcast_lt (V_lt (show t + 1 < t' by omega))
  have c := h.1 (t + 1)
  unfold dd at *
  grind
theorem nr_unique {x : Rat} {t t' : Nat} (h : Nr x t) (h' : Nr x t') : t = t' := by
  rcases Nat.lt_trichotomy t t' with z | z | z
  · exact (nr_unique' h h' z).elim
  · exact z
  · exact (nr_unique' h' h z).elim

theorem V_down {t n : Nat} (h : (n + 1) * 2 ^ 52 ≤ t) : V (t - n * 2 ^ 52) * 2 ^ n = V t := by
  have e1 : (t - n * 2 ^ 52) / 2 ^ 52 = t / 2 ^ 52 - n := by omega
  have e2 : (t - n * 2 ^ 52) % 2 ^ 52 = t % 2 ^ 52 := by omega
  have h3 : n + 1 ≤ t / 2 ^ 52 := by omega
  unfold V
  rw [e1, e2, if_neg (by omega), if_neg (by omega), Nat.mul_assoc, ← Nat.pow_add]
  congr 2; omega
theorem V_up (t n : Nat) : ∃ t', V t' = V t * 2 ^ n := by
  obtain ⟨k, q, _, hq, _, hv⟩ := V_form t
  obtain ⟨t', ht⟩ := V_repr (k + n) q (by omega)
  exact ⟨t', by rw [ht, hv, Nat.pow_add, Nat.mul_assoc]⟩

theorem nr_down {x : Rat} {t n : Nat} (h : Nr x t) (ht : (n + 1) * 2 ^ 52 ≤ t) : Nr (x / 2 ^ n) (t - n * 2 ^ 52) := by
  have hp : (0 : Rat) < 2 ^ n := Rat.pow_pos (by decide)
  have hne := pow_ne n
  have ex : x / 2 ^ n * 2 ^ n = x := Rat.div_mul_cancel hne
  have hd : ((V (t - n * 2 ^ 52) : Nat) : Rat) * 2 ^ n = (V t : Nat) := by rw [← V_down ht, Rat.natCast_mul, pow_cast]
  have key : dd (x / 2 ^ n) (V (t - n * 2 ^ 52) : Nat) * 2 ^ n = dd x (V t : Nat) := by rw [← dd_scale hp, ex, hd]
  have key' : ∀ t' s, V s = V t' * 2 ^ n → dd (x / 2 ^ n) (V t' : Nat) * 2 ^ n = dd x (V s : Nat) := fun t' s hs => by
    rw [← dd_scale hp, ex, hs, Rat.natCast_mul, pow_cast]
  refine ⟨fun t' => ?_, fun t' h1 h2 => ?_⟩
  · obtain ⟨s, hs⟩ := V_up t' n
    apply Rat.le_of_mul_le_mul_right (c := (2 : Rat) ^ n) _ hp
    rw [key, key' t' s hs]
    exact h.1 s
  · obtain ⟨s, hs⟩ := V_up t' n
    have := h.2 s (fun z => h1 (by rw [hs, ← V_down ht] at z; exact Nat.eq_of_mul_eq_mul_right (Nat.two_pow_pos n) z)) (by rw [← key, ← key' t' s hs, h2])
    omega

/-- a multiple of 2^-k -/
noncomputable def Gd (k : Nat) (q : Rat) : Prop := ∃ m : Int, q * 2 ^ k = m
theorem Gd.add {k : Nat} {p q : Rat} (h : Gd k p) (h' : Gd k q) : Gd k (p + q) := by
  obtain ⟨a, ha⟩ := h; obtain ⟨b, hb⟩ := h'
  exact ⟨a + b, by rw [Rat.intCast_add]; grind⟩
theorem Gd.sub {k : Nat} {p q : Rat} (h : Gd k p) (h' : Gd k q) : Gd k (p - q) := by
  obtain ⟨a, ha⟩ := h; obtain ⟨b, hb⟩ := h'
  exact ⟨a - b, by rw [Rat.intCast_sub]; grind⟩
theorem pow_split (a b : Nat) : (2 : Rat) ^ (a + b) = 2 ^ a * 2 ^ b := by
  rw [← pow_cast, ← pow_cast, ← pow_cast, Nat.pow_add, Rat.natCast_mul]
theorem Gd.tiny {k : Nat} {p : Rat} (h : Gd k p) : p = 0 ∨ 1 / 2 ^ k ≤ p ∨ p ≤ -(1 / 2 ^ k) := by
  obtain ⟨a, ha⟩ := h
  have hp : (0 : Rat) < 2 ^ k := Rat.pow_pos (by decide)
  have hne := pow_ne k
  have e : (1 / 2 ^ k : Rat) * 2 ^ k = 1 := Rat.div_mul_cancel hne
  rcases Int.lt_trichotomy a 0 with z | z | z
  · right; right
    have : (a : Rat) ≤ ((-1 : Int) : Rat) := icast_le (by omega)
    rw [Rat.intCast_neg, Rat.intCast_one] at this
    apply Rat.le_of_mul_le_mul_right (c := (2 : Rat) ^ k) _ hp
    grind
  · left; subst z; simp at ha; grind
  · right; left
    have : ((1 : Int) : Rat) ≤ (a : Rat) := icast_le (by omega)
    rw [Rat.intCast_one] at this
    apply Rat.le_of_mul_le_mul_right (c := (2 : Rat) ^ k) _ hp
    grind
theorem Rp_grid {k : Nat} (hk : k ≤ 1000) {m : Int} (hm : m.natAbs ≤ 2 ^ 53) {q : Rat} (h : q * 2 ^ k = m) : Rp q := by
  refine ⟨m, 1074 - k, hm, ?_⟩
  have : (S : Rat) = 2 ^ k * 2 ^ (1074 - k) := by
    rw [← pow_split, show k + (1074 - k) = 1074 by omega, ← pow_cast]; rfl
  rw [this, ← h, pow_cast]; grind
theorem Gd.round {k : Nat} {r : UInt64} {q : Rat} (hk : k ≤ 1000) (h : Rd r q) (hf : FF r) (g : Gd k q) : Gd k (fv r) := by
  obtain ⟨a, ha⟩ := g
  have hp : (0 : Rat) < 2 ^ k := Rat.pow_pos (by decide)
  by_cases hm : a.natAbs ≤ 2 ^ 53
  · rw [h.exact hf (Rp_grid hk hm ha)]; exact ⟨a, ha⟩
  · obtain ⟨neg, t, e1, n1, p1⟩ := h.nr hf
    have hS := S_pos
    have eS : (S : Rat) = 2 ^ k * 2 ^ (1074 - k) := by
      rw [← pow_split, show k + (1074 - k) = 1074 by omega, ← pow_cast]; rfl
    have hne := pow_ne k
    have big : ((2 ^ 53 * 2 ^ (1074 - k) : Nat) : Rat) ≤ V t := by
      have eb : ((2 ^ 53 : Int) : Rat) / 2 ^ k * 2 ^ k = ((2 ^ 53 : Int) : Rat) := Rat.div_mul_cancel hne
      have r1 : Rp (((2 ^ 53 : Int) : Rat) / 2 ^ k) := Rp_grid hk (m := 2 ^ 53) (by decide) eb
      have r2 : Rp (-(((2 ^ 53 : Int) : Rat) / 2 ^ k)) := Rp_grid hk (m := -2 ^ 53) (by decide) (by rw [Rat.intCast_neg]; grind)
      have e5 : ((2 ^ 53 * 2 ^ (1074 - k) : Nat) : Rat) = ((2 ^ 53 : Int) : Rat) / 2 ^ k * S := by
        rw [Rat.natCast_mul, eS, pow_cast (1074 - k), show ((2 ^ 53 : Nat) : Rat) = ((2 ^ 53 : Int) : Rat) from by decide +kernel]
        generalize ((2 ^ 53 : Int) : Rat) = u at *
        grind
      rw [e5]
      rcases Int.lt_or_le a 0 with z | z
      · have : (a : Rat) ≤ ((-2 ^ 53 : Int) : Rat) := icast_le (by omega)
        rw [Rat.intCast_neg] at this
        have le : q ≤ -(((2 ^ 53 : Int) : Rat) / 2 ^ k) := Rat.le_of_mul_le_mul_right (c := (2 : Rat) ^ k) (by grind) hp
        have := Rat.mul_le_mul_of_nonneg_right (h.le hf r2 le) (Rat.le_of_lt hS)
        rw [e1] at this
        have pq : (0 : Rat) ≤ ((2 ^ 53 : Int) : Rat) / 2 ^ k * S := by rw [← e5]; exact Rat.natCast_nonneg
        have vt : (0 : Rat) ≤ V t := Rat.natCast_nonneg
        generalize ((2 ^ 53 : Int) : Rat) / 2 ^ k = u at *
        cases neg <;> simp at this <;> grind
      · have : ((2 ^ 53 : Int) : Rat) ≤ (a : Rat) := icast_le (by omega)
        have le : (((2 ^ 53 : Int) : Rat) / 2 ^ k) ≤ q := Rat.le_of_mul_le_mul_right (c := (2 : Rat) ^ k) (by grind) hp
        have := Rat.mul_le_mul_of_nonneg_right (h.ge hf r1 le) (Rat.le_of_lt hS)
        rw [e1] at this
        have pq : (0 : Rat) ≤ ((2 ^ 53 : Int) : Rat) / 2 ^ k * S := by rw [← e5]; exact Rat.natCast_nonneg
        have vt : (0 : Rat) ≤ V t := Rat.natCast_nonneg
        generalize ((2 ^ 53 : Int) : Rat) / 2 ^ k = u at *
        cases neg <;> simp at this <;> grind
    have big := Rat.natCast_le_natCast.mp big
    obtain ⟨e, m, _, hm', _, hv⟩ := V_form t
    have he : 1074 - k ≤ e := by
      rcases Nat.lt_or_ge e (1074 - k) with z | z
      · have h1 : m * 2 ^ e < 2 ^ 53 * 2 ^ e := Nat.mul_lt_mul_of_pos_right hm' (Nat.two_pow_pos _)
        have h2 : 2 ^ 53 * 2 ^ e ≤ 2 ^ 53 * 2 ^ (1074 - k) := Nat.mul_le_mul_left _ (Nat.pow_le_pow_right (by decide) (by omega))
        omega
      · exact z
    have hee : e - (1074 - k) + (1074 - k) = e := by omega
    have hve : V t = m * 2 ^ (e - (1074 - k)) * 2 ^ (1074 - k) := by rw [hv, Nat.mul_assoc, ← Nat.pow_add, hee]
    have hpk := pow_ne (1074 - k)
    have f1 : fv r * 2 ^ k * 2 ^ (1074 - k) = if neg then -(V t : Rat) else V t := by rw [← e1, eS]; grind
    rw [hve, Rat.natCast_mul, pow_cast (1074 - k)] at f1
    generalize m * 2 ^ (e - (1074 - k)) = M at *
    cases neg
    · simp at f1
      exact ⟨(M : Int), by rw [Rat.intCast_natCast]; grind⟩
    · simp at f1
      exact ⟨-(M : Int), by rw [Rat.intCast_neg, Rat.intCast_natCast]; grind⟩
end Mine

end
section
open PySem PySem.Float64
namespace Mine

theorem pow_mono2 {a b : Nat} (h : a ≤ b) : (2 : Rat) ^ a ≤ 2 ^ b := by
  rw [← pow_cast, ← pow_cast]; exact cast_le (Nat.pow_le_pow_right (by decide) h)
end Mine

end
section
open PySem PySem.Float64
namespace Mine

theorem mulpow_int {c : Int} {n : Nat} (hn : n ≤ 900) (h1 : -(2 ^ 53) ≤ c) (h2 : c ≤ 2 ^ 53) : FF (Float64.ofInt (c * 2 ^ n)) ∧ fv (Float64.ofInt (c * 2 ^ n)) = c * 2 ^ n := by
  have hr := Rd_int (c * 2 ^ n)
  have e : ((c * 2 ^ n : Int) : Rat) = c * 2 ^ n := by rw [Rat.intCast_mul, Rat.intCast_pow]; rfl
  rw [e] at hr
  have c1 := icast_le h1
  have c2 := icast_le h2
  rw [show ((-(2 ^ 53) : Int) : Rat) = -2 ^ 53 from by decide +kernel] at c1
  rw [show ((2 ^ 53 : Int) : Rat) = 2 ^ 53 from by decide +kernel] at c2
  have hp : (0 : Rat) ≤ 2 ^ n := Rat.le_of_lt (Rat.pow_pos (by decide))
  have m1 := Rat.mul_le_mul_of_nonneg_right c1 hp
  have m2 := Rat.mul_le_mul_of_nonneg_right c2 hp
  have m3 : (2 : Rat) ^ 53 * 2 ^ n ≤ 2 ^ 1000 := by rw [← pow_split]; exact pow_mono2 (by omega)
  have f : FF (Float64.ofInt (c * 2 ^ n)) := hr.fin (by grind) (by grind)
  refine ⟨f, hr.exact f ⟨c, n + 1074, by omega, ?_⟩⟩
  rw [Nat.pow_add, Rat.natCast_mul, pow_cast n, ← Rat.mul_assoc]; rfl
theorem pow_int {n : Nat} (hn : n ≤ 900) : FF (Float64.ofInt (2 ^ n)) ∧ fv (Float64.ofInt (2 ^ n)) = 2 ^ n := by
  have := mulpow_int (c := 1) hn (by decide) (by decide)
  rwa [Int.one_mul, Rat.intCast_one, Rat.one_mul] at this

/-- halved n times, by a division -/
noncomputable def hv (x : UInt64) (n : Nat) : UInt64 := Float64.div x (Float64.ofInt (2 ^ n))
theorem times_round {K x : UInt64} {N : Int} (hK : FF K) (hx : FF x) (h1 : fv K * fv x - N ≤ 3 / 8) (h2 : N - fv K * fv x ≤ 3 / 8) (b1 : -2 ^ 49 ≤ fv K * fv x) (b2 : fv K * fv x ≤ 2 ^ 49) : FF (Float64.mul K x) ∧ roundF (Float64.mul K x) = N := by
  obtain ⟨f, p, q⟩ := (Rd_mul hK hx).errp 49 b1 b2
  exact ⟨f, roundF_near f (by grind) (by grind)⟩

end Mine

end
section
open PySem PySem.Float64
namespace Mine

theorem Rd.mono {r r' : UInt64} {q q' : Rat} (h : Rd r q) (h' : Rd r' q') (hf : FF r) (hf' : FF r') (hq : q ≤ q') : fv r ≤ fv r' := by
  by_cases e : q = q'
  · subst e
    obtain ⟨neg, t, e1, n1, p1⟩ := h.nr hf
    obtain ⟨neg', t', e2, n2, p2⟩ := h'.nr hf'
    by_cases hs : neg = neg'
    · subst hs
      have := nr_unique n1 n2
      subst this
      have : fv r * S = fv r' * S := by rw [e1, e2]
      have := S_ne
      grind
    · have z : q = 0 := by cases neg <;> cases neg' <;> simp at p1 p2 hs <;> grind
      subst z
      have z : Rp 0 := ⟨0, 0, by decide, by simp⟩
      rw [h.exact hf z, h'.exact hf' z]
      exact Rat.le_refl
  · have a := h.near hf (d := if fv r' ≤ q then q - fv r' else fv r' - q) (Rp_fv hf') (by grind) (by grind)
    have b := h'.near hf' (d := if fv r ≤ q' then q' - fv r else fv r - q') (Rp_fv hf) (by grind) (by grind)
    grind

theorem Rd_bin {a : Bool} {M : Nat} {g : Int} (hg : -1074 ≤ g) : Rd (ofBin a M g) (((sgn a (M * 2 ^ (g + 1074).toNat) : Int) : Rat) / S) := by
  refine ⟨a, M * 2 ^ (g + 1074).toNat, 1, by decide, ?_, ?_⟩
  · unfold ofBin
    have := shift_one M g 1074 (by omega)
    have hp := shift_pos M 1 g (by decide)
    generalize Float64.shift M 1 g = z at *
    obtain ⟨n, d⟩ := z
    exact ofFrac_right hp (by rw [Nat.mul_one]; exact this) (by decide)
  · show _ / (S : Rat) * (((1 : Nat) : Rat) * S) = _
    rw [show ((1 : Nat) : Rat) = 1 from rfl, Rat.one_mul, Rat.div_mul_cancel S_ne]

theorem decode_one : decode 4607182418800017408 = .fin false (2 ^ 52) (-52) := by kernel_rfl

/-- the rest by 1.0 -/
theorem fmod_one {x : UInt64} (hx : FF x) : FF (fmod x 4607182418800017408) ∧ ∃ k : Int, fv x = k + fv (fmod x 4607182418800017408) ∧ fv (fmod x 4607182418800017408) < 1 ∧ -1 < fv (fmod x 4607182418800017408) ∧ (0 ≤ fv x → 0 ≤ fv (fmod x 4607182418800017408)) ∧ (fv x ≤ 0 → fv (fmod x 4607182418800017408) ≤ 0) := by
  obtain ⟨a, m, e, hd⟩ := hx.dec
  have he := decode_ge hd
  have hm := (decode_le hd).1
  have hg : -1074 ≤ min e (-52) := by omega
  have hfm : fmod x 4607182418800017408 = ofBin a (m * 2 ^ (e - min e (-52)).toNat % (2 ^ 52 * 2 ^ (-52 - min e (-52)).toNat)) (min e (-52)) := by
    unfold fmod
    rw [hd, decode_one]
    simp only [align, sgn, Bool.false_eq_true, if_false, Int.toNat_natCast]
    rfl
  rw [hfm]
  generalize hgg : min e (-52) = g at *
  have hr := Rd_bin (a := a) (M := m * 2 ^ (e - g).toNat % (2 ^ 52 * 2 ^ (-52 - g).toNat)) hg
  have hq : 2 ^ 52 * 2 ^ (-52 - g).toNat * 2 ^ (g + 1074).toNat = S := by
    unfold S; rw [← Nat.pow_add, ← Nat.pow_add]; congr 1; omega
  have hp : m * 2 ^ (e - g).toNat * 2 ^ (g + 1074).toNat = (val x).natAbs := by
    rw [val_natAbs hd, Nat.mul_assoc, ← Nat.pow_add]; congr 2; omega
  have hM : m * 2 ^ (e - g).toNat % (2 ^ 52 * 2 ^ (-52 - g).toNat) ≤ 2 ^ 53 := by
    by_cases h1 : -52 ≤ e
    · have : g = -52 := by omega
      subst this
      have := Nat.mod_lt (m * 2 ^ (e - -52).toNat) (y := 2 ^ 52 * 2 ^ (-52 - -52 : Int).toNat) (by decide)
      have e0 : (2 : Nat) ^ 52 * 2 ^ (-52 - -52 : Int).toNat = 2 ^ 52 := by decide
      rw [e0] at this ⊢
      omega
    · have : g = e := by omega
      subst this
      have e0 : (g - g).toNat = 0 := by omega
      rw [e0, Nat.pow_zero, Nat.mul_one]
      exact Nat.le_trans (Nat.mod_le _ _) (by omega)
  have hW : m * 2 ^ (e - g).toNat % (2 ^ 52 * 2 ^ (-52 - g).toNat) * 2 ^ (g + 1074).toNat = (val x).natAbs % S := by
    rw [← hp, ← hq, Nat.mul_mod_mul_right]
  have hSp : 0 < S := Nat.two_pow_pos _
  have hlt := Nat.mod_lt (val x).natAbs hSp
  have hdm := Nat.div_add_mod (val x).natAbs S
  have hSne := S_ne
  have hS := S_pos
  have hltQ : (((val x).natAbs % S : Nat) : Rat) < S := Rat.natCast_lt_natCast.mpr hlt
  have hnn : (0 : Rat) ≤ (((val x).natAbs % S : Nat) : Rat) := Rat.natCast_nonneg
  generalize hMM : m * 2 ^ (e - g).toNat % (2 ^ 52 * 2 ^ (-52 - g).toNat) = M at *
  rw [hW] at hr
  have hrp : Rp (((sgn a ((val x).natAbs % S) : Int) : Rat) / S) := by
    refine ⟨sgn a M, (g + 1074).toNat, by rw [sgn_natAbs]; exact hM, ?_⟩
    rw [Rat.div_mul_cancel hSne, ← hW, sgn_mul, Rat.intCast_mul]; rfl
  have hb : -1 < ((sgn a ((val x).natAbs % S) : Int) : Rat) / S ∧ ((sgn a ((val x).natAbs % S) : Int) : Rat) / S < 1 := by
    have e1 : ((sgn a ((val x).natAbs % S) : Int) : Rat) / S * S = ((sgn a ((val x).natAbs % S) : Int) : Rat) := Rat.div_mul_cancel hSne
    rw [sgn_cast] at e1 ⊢
    constructor
    · apply Rat.lt_of_mul_lt_mul_right (c := (S : Rat)) _ (Rat.le_of_lt hS)
      rw [e1]; cases a <;> simp <;> grind
    · apply Rat.lt_of_mul_lt_mul_right (c := (S : Rat)) _ (Rat.le_of_lt hS)
      rw [e1]; cases a <;> simp <;> grind
  have f : FF (ofBin a M g) := (hr.err1 (by grind) (by grind)).1
  have ev := hr.exact f hrp
  refine ⟨f, sgn a ((val x).natAbs / S), ?_, ?_⟩
  · have hv : fv x * S = ((sgn a (val x).natAbs : Int) : Rat) := by rw [fv_S, val_sgn hd]
    have h1 : ((sgn a (val x).natAbs : Int) : Rat) = (sgn a ((val x).natAbs / S) : Int) * S + (sgn a ((val x).natAbs % S) : Int) := by
      have h2 : ((val x).natAbs : Rat) = S * (((val x).natAbs / S : Nat) : Rat) + (((val x).natAbs % S : Nat) : Rat) := by rw [← Rat.natCast_mul, ← Rat.natCast_add, hdm]
      rw [sgn_cast, sgn_cast, sgn_cast]
      cases a <;> simp <;> grind
    rw [ev]
    have e1 : ((sgn a ((val x).natAbs % S) : Int) : Rat) / S * S = ((sgn a ((val x).natAbs % S) : Int) : Rat) := Rat.div_mul_cancel hSne
    have : fv x * S = ((sgn a ((val x).natAbs / S) : Int) + ((sgn a ((val x).natAbs % S) : Int) : Rat) / S) * S := by rw [hv, h1]; grind
    grind
  · rw [ev]
    refine ⟨hb.2, hb.1, fun h0 => ?_, fun h0 => ?_⟩
    · apply Rat.le_of_mul_le_mul_right (c := (S : Rat)) _ hS
      rw [Rat.div_mul_cancel hSne, sgn_cast]
      have hv : fv x * S = ((sgn a (val x).natAbs : Int) : Rat) := by rw [fv_S, val_sgn hd]
      rw [sgn_cast] at hv
      have h3 := Rat.mul_le_mul_of_nonneg_right h0 (Rat.le_of_lt hS)
      cases a
      · simp; exact hnn
      · simp at hv ⊢
        have h4 : ((val x).natAbs : Rat) ≤ 0 := by grind
        have h5 : (val x).natAbs ≤ 0 := Rat.natCast_le_natCast.mp h4
        have : (val x).natAbs = 0 := by omega
        rw [this]; simp
    · apply Rat.le_of_mul_le_mul_right (c := (S : Rat)) _ hS
      rw [Rat.div_mul_cancel hSne, sgn_cast]
      have hv : fv x * S = ((sgn a (val x).natAbs : Int) : Rat) := by rw [fv_S, val_sgn hd]
      rw [sgn_cast] at hv
      have h3 := Rat.mul_le_mul_of_nonneg_right h0 (Rat.le_of_lt hS)
      cases a
      · simp at hv ⊢
        have h4 : ((val x).natAbs : Rat) ≤ 0 := by grind
        have h5 : (val x).natAbs ≤ 0 := Rat.natCast_le_natCast.mp h4
        have : (val x).natAbs = 0 := by omega
        rw [this]; simp
      · simp; grind
end Mine

end
section
open PySem PySem.Float64
namespace Mine

/-- x % 1.0 -/
noncomputable def mod1 (x : UInt64) : UInt64 := (Float64.divmod x 4607182418800017408).2

theorem mod1_eq (x : UInt64) : mod1 x = if Float64.isZero (fmod x 4607182418800017408) = true then 0 else if (Float64.cmp (fmod x 4607182418800017408) 0 == some .lt) = true then Float64.add (fmod x 4607182418800017408) 4607182418800017408 else fmod x 4607182418800017408 := by
  unfold mod1 divmod
  simp only
  have e1 : copysign (zero false) 4607182418800017408 = 0 := by decide +kernel
  have e2 : Float64.lt 4607182418800017408 (zero false) = false := by decide +kernel
  have e3 : (zero false : UInt64) = 0 := by decide +kernel
  have e4 : ∀ y, Float64.lt y (zero false) = (Float64.cmp y 0 == some .lt) := fun y => by rw [e3]; rfl
  rw [e1, e2, e4]
  by_cases h : Float64.isZero (fmod x 4607182418800017408) = true
  · simp [h]
  · rw [if_neg h, if_neg h]
    cases hc : (Float64.cmp (fmod x 4607182418800017408) 0 == some .lt) <;> simp

theorem mod1_spec {x : UInt64} (hx : FF x) : FF (mod1 x) ∧ 0 ≤ fv (mod1 x) ∧ fv (mod1 x) ≤ 1 ∧ ∃ (k : Int) (f : Rat), fv x = k + f ∧ 0 ≤ f ∧ f < 1 ∧ (fv (mod1 x) = f ∨ (fv x < 0 ∧ Rd (mod1 x) f)) := by
  obtain ⟨fm, k, hk, h1, h2, h3, h4⟩ := fmod_one hx
  rw [mod1_eq]
  generalize fmod x 4607182418800017408 = m at *
  rw [isZero_fv fm, cmp_lt fm fv0.1, fv0.2]
  by_cases z : fv m = 0
  · rw [if_pos (by simpa using z)]
    exact ⟨fv0.1, by rw [fv0.2]; exact Rat.le_refl, by rw [fv0.2]; decide, k, 0, by grind, by decide, by decide, .inl fv0.2⟩
  · rw [if_neg (by simpa using z)]
    by_cases n : fv m < 0
    · rw [if_pos (by simpa using n)]
      have hr := Rd_add fm fv1.1
      rw [fv1.2] at hr
      obtain ⟨f, _⟩ := hr.err1 (by grind) (by grind)
      refine ⟨f, hr.ge f ⟨0, 0, by decide, by simp⟩ (by grind), hr.le f one_Rp (by grind), k - 1, fv m + 1, by rw [Rat.intCast_sub, Rat.intCast_one]; grind, by grind, by grind, .inr ⟨?_, hr⟩⟩
      by_cases q : fv x < 0
      · exact q
      · exact absurd (h3 (by grind)) (by grind)
    · rw [if_neg (by simpa using n)]
      exact ⟨fm, by grind, by grind, k, fv m, hk, by grind, h1, .inl rfl⟩
end Mine

end
section
open PySem PySem.Float64
namespace Mine

/-- the relative error -/
theorem Rd.relN {r : UInt64} {q : Rat} (h : Rd r q) (k : Nat) (hk1 : (2 ^ k : Nat) ≤ (if q < 0 then -q else q) * S) (hk2 : (if q < 0 then -q else q) * S ≤ (2 ^ (k + 1) : Nat)) (h53 : 53 ≤ k) (hk : k ≤ 2000) :
    FF r ∧ fv r - q ≤ (if q < 0 then -q else q) / 2 ^ 53 ∧ q - fv r ≤ (if q < 0 then -q else q) / 2 ^ 53 := by
  have hS := S_pos
  have hSne := S_ne
  generalize ha : (if q < 0 then -q else q) = a at *
  have hE : ((2 ^ (k + 1) : Nat) : Rat) / S * S = (2 ^ (k - 53 + 54) : Nat) := by rw [Rat.div_mul_cancel hSne, show k - 53 + 54 = k + 1 by omega]
  have b : a ≤ ((2 ^ (k + 1) : Nat) : Rat) / S := Rat.le_of_mul_le_mul_right (c := (S : Rat)) (by rw [Rat.div_mul_cancel hSne]; exact hk2) hS
  obtain ⟨f, p, q'⟩ := h.err hE (by omega) (by grind) (by grind)
  have e : ((2 ^ (k + 1) : Nat) : Rat) / S / 2 ^ 54 ≤ a / 2 ^ 53 := by
    apply Rat.le_of_mul_le_mul_right (c := (S : Rat)) _ hS
    have e1 : ((2 ^ (k + 1) : Nat) : Rat) = ((2 ^ k : Nat) : Rat) * 2 := by rw [Nat.pow_succ, Rat.natCast_mul]; rfl
    have e2 : ((2 ^ (k + 1) : Nat) : Rat) / S / 2 ^ 54 * S = ((2 ^ k : Nat) : Rat) / 2 ^ 53 := by rw [e1]; grind
    have e3 : a / 2 ^ 53 * S = a * S / 2 ^ 53 := by grind
    rw [e2, e3]
    grind
  exact ⟨f, by grind, by grind⟩

theorem two_pow_bracket {y : Rat} (h : (2 ^ 53 : Nat) ≤ y) (h2 : y ≤ (2 ^ 2000 : Nat)) : ∃ k, 53 ≤ k ∧ k ≤ 2000 ∧ ((2 ^ k : Nat) : Rat) ≤ y ∧ y ≤ (2 ^ (k + 1) : Nat) := by
  have f1 := Rat.floor_le y
  have f2 := Rat.lt_floor_add_one y
  have hn : (2 ^ 53 : Nat) ≤ y.floor := by
    have : (((2 ^ 53 : Nat) : Int) : Rat) ≤ y := by rw [Rat.intCast_natCast]; exact h
    exact Rat.le_floor_iff.mpr this
  have hne : y.floor.toNat ≠ 0 := by
    have : (1 : Int) ≤ ((2 ^ 53 : Nat) : Int) := by decide
    omega
  have hcast : ((y.floor.toNat : Nat) : Int) = y.floor := by
    have : (1 : Int) ≤ ((2 ^ 53 : Nat) : Int) := by decide
    omega
  refine ⟨y.floor.toNat.log2, ?_, ?_, ?_, ?_⟩
  · have : 2 ^ 53 ≤ y.floor.toNat := by omega
    exact (Nat.le_log2 hne).mpr this
  · have h3 : y.floor ≤ ((2 ^ 2000 : Nat) : Int) := by
      have : (y.floor : Rat) ≤ (((2 ^ 2000 : Nat) : Int) : Rat) := by rw [Rat.intCast_natCast]; exact Rat.le_trans f1 h2
      exact Rat.intCast_le_intCast.mp this
    have h4 : y.floor.toNat ≤ 2 ^ 2000 := by
      generalize 2 ^ 2000 = z at *
      omega
    have h5 : y.floor.toNat < 2 ^ 2001 := Nat.lt_of_le_of_lt h4 (Nat.pow_lt_pow_right (by decide) (by decide))
    have := (Nat.log2_lt hne).mpr h5
    omega
  · have h3 := Nat.log2_self_le hne
    have h4 : ((2 ^ y.floor.toNat.log2 : Nat) : Rat) ≤ (y.floor.toNat : Nat) := cast_le h3
    have h5 : ((y.floor.toNat : Nat) : Rat) = (y.floor : Rat) := by rw [← Rat.intCast_natCast, hcast]
    rw [h5] at h4
    exact Rat.le_trans h4 f1
  · have h3 := @Nat.lt_log2_self y.floor.toNat
    have h4 : (((y.floor + 1 : Int)) : Rat) ≤ ((2 ^ (y.floor.toNat.log2 + 1) : Nat) : Rat) := by
      rw [← Rat.intCast_natCast]
      apply icast_le
      generalize 2 ^ (y.floor.toNat.log2 + 1) = z at *
      omega
    exact Rat.le_trans (Rat.le_of_lt f2) h4

/-- relative error off the smallest floats -/
theorem Rd.rel {r : UInt64} {q : Rat} (h : Rd r q) (h1 : q = 0 ∨ (2 ^ 53 : Nat) ≤ (if q < 0 then -q else q) * S) (h2 : (if q < 0 then -q else q) ≤ 2 ^ 900) :
    FF r ∧ fv r - q ≤ (if q < 0 then -q else q) / 2 ^ 53 ∧ q - fv r ≤ (if q < 0 then -q else q) / 2 ^ 53 := by
  rcases h1 with z | z
  · subst z
    obtain ⟨f, _⟩ := h.err1 (by decide) (by decide)
    have := h.exact f ⟨0, 0, by decide, by simp⟩
    rw [this]
    refine ⟨f, by simp only [if_neg (show ¬ (0 : Rat) < 0 by decide)]; grind, by simp only [if_neg (show ¬ (0 : Rat) < 0 by decide)]; grind⟩
  · obtain ⟨k, k1, k2, k3, k4⟩ := two_pow_bracket z (by
      have hS := S_pos
      have := Rat.mul_le_mul_of_nonneg_right h2 (Rat.le_of_lt hS)
      refine Rat.le_trans this ?_
      rw [E_pow (by decide)]
      exact cast_le (Nat.pow_le_pow_right (by decide) (by decide)))
    exact h.relN k k3 k4 k1 k2

/-- a whole number of the smallest float: no lower bound is wanted -/
theorem Rd.relS {r : UInt64} {q : Rat} {i : Int} (h : Rd r q) (hi : q * S = i) (h2 : (if q < 0 then -q else q) ≤ 2 ^ 900) :
    FF r ∧ fv r - q ≤ (if q < 0 then -q else q) / 2 ^ 53 ∧ q - fv r ≤ (if q < 0 then -q else q) / 2 ^ 53 := by
  by_cases hb : i.natAbs ≤ 2 ^ 53
  · have hrp : Rp q := ⟨i, 0, hb, by rw [hi]; simp⟩
    have m := pow_mono2 (a := 900) (b := 1000) (by decide)
    have f : FF r := h.fin (by grind) (by grind)
    have e := h.exact f hrp
    rw [e]
    have : 0 ≤ (if q < 0 then -q else q) := by split <;> grind
    exact ⟨f, by grind, by grind⟩
  · refine h.rel (.inr ?_) h2
    have hS := S_pos
    have e : (if q < 0 then -q else q) * S = ((i.natAbs : Nat) : Rat) := by
      have h0 : q < 0 ↔ i < 0 := by
        constructor
        · intro z
          have := Rat.mul_lt_mul_of_pos_right z hS
          rw [hi] at this
          exact Rat.intCast_neg_iff.mp (by grind)
        · intro z
          have z' : (i : Rat) < 0 := Rat.intCast_neg_iff.mpr z
          rw [← hi] at z'
          exact Rat.lt_of_mul_lt_mul_right (c := (S : Rat)) (by grind) (Rat.le_of_lt hS)
      by_cases z : q < 0
      · rw [if_pos z, ← Rat.intCast_natCast i.natAbs, show ((i.natAbs : Nat) : Int) = -i by have := h0.mp z; omega, Rat.intCast_neg, ← hi]; grind
      · rw [if_neg z, ← Rat.intCast_natCast i.natAbs, show ((i.natAbs : Nat) : Int) = i by have : ¬ i < 0 := fun y => z (h0.mpr y); omega, ← hi]
    rw [e]
    exact cast_le (by omega)
theorem rel_sub {x y : UInt64} (hx : FF x) (hy : FF y) (h0 : fv y ≤ fv x) (h2 : fv x - fv y ≤ 2 ^ 900) : FF (Float64.sub x y) ∧ fv (Float64.sub x y) - (fv x - fv y) ≤ (fv x - fv y) / 2 ^ 53 ∧ (fv x - fv y) - fv (Float64.sub x y) ≤ (fv x - fv y) / 2 ^ 53 := by
  have := (Rd_sub hx hy).relS (i := val x - val y) (by rw [Rat.intCast_sub, ← fv_S, ← fv_S]; grind) (by rw [if_neg (by grind)]; exact h2)
  rwa [if_neg (by grind)] at this
end Mine

end
section
open PySem PySem.Float64
namespace Mine

/-- the curve of _v over a turn -/
noncomputable def cv (f : Rat) : Rat := if f < 1/6 then 6 * f else if f < 1/2 then 1 else if f < 2/3 then 6 * (2/3 - f) else 0
noncomputable def cvP (x : Rat) : Rat := cv (x - x.floor)

theorem frac_bd (x : Rat) : 0 ≤ x - x.floor ∧ x - x.floor < 1 := by
  have h1 := Rat.floor_le x
  have h2 := Rat.lt_floor_add_one x
  rw [Rat.intCast_add, Rat.intCast_one] at h2
  exact ⟨by grind, by grind⟩
theorem cv_bd {f : Rat} (h0 : 0 ≤ f) : 0 ≤ cv f ∧ cv f ≤ 1 := by
  unfold cv; constructor <;> grind
theorem cvP_bd (x : Rat) : 0 ≤ cvP x ∧ cvP x ≤ 1 := cv_bd (frac_bd x).1
theorem cvP_add (x : Rat) (k : Int) : cvP (x + k) = cvP x := by
  unfold cvP
  rw [Rat.floor_add_intCast, Rat.intCast_add]
  congr 1; grind
theorem floor_of {x : Rat} {k : Int} (h0 : (k : Rat) ≤ x) (h1 : x < k + 1) : x.floor = k := by
  have a := Rat.le_floor_iff.mpr h0
  have b : x.floor < k + 1 := Rat.floor_lt_iff.mpr (by rw [Rat.intCast_add, Rat.intCast_one]; exact h1)
  omega
theorem cvP_of {x f : Rat} {k : Int} (h : x = k + f) (h0 : 0 ≤ f) (h1 : f < 1) : cvP x = cv f := by
  unfold cvP
  rw [floor_of (k := k) (by grind) (by grind)]
  congr 1; grind
theorem cv_lip {f g : Rat} (h0 : 0 ≤ f) (h : f ≤ g) : cv g - cv f ≤ 6 * (g - f) ∧ cv f - cv g ≤ 6 * (g - f) := by
  unfold cv; constructor <;> grind
theorem cv_zero : cv 0 = 0 := by decide +kernel
theorem cv_one : cv 1 = 0 := by decide +kernel
theorem cvP_lip' {x y : Rat} (h : x ≤ y) : cvP y - cvP x ≤ 6 * (y - x) ∧ cvP x - cvP y ≤ 6 * (y - x) := by
  have hx := frac_bd x
  have hy := frac_bd y
  have hm := Rat.floor_monotone h
  unfold cvP
  by_cases e : x.floor = y.floor
  · have := cv_lip hx.1 (show x - x.floor ≤ y - y.floor by rw [e]; grind)
    rw [e] at this ⊢
    grind
  · have h1 : (((x.floor + 1 : Int)) : Rat) ≤ (y.floor : Rat) := icast_le (by omega)
    rw [Rat.intCast_add, Rat.intCast_one] at h1
    have a := cv_lip hx.1 (Rat.le_of_lt hx.2)
    have b := cv_lip (f := 0) (by decide) hy.1
    rw [cv_one] at a
    rw [cv_zero] at b
    have b1 := cv_bd hx.1
    have b2 := cv_bd hy.1
    grind
theorem cvP_lip {x y e : Rat} (h1 : x - y ≤ e) (h2 : y - x ≤ e) : cvP x - cvP y ≤ 6 * e ∧ cvP y - cvP x ≤ 6 * e := by
  by_cases h : x ≤ y
  · have := cvP_lip' h; grind
  · have := cvP_lip' (x := y) (y := x) (by grind); grind

theorem cvP_base {x ρ p q : Rat} (hρ : 0 < ρ) (hx : 6 * x * ρ = p - q) (hp : 0 ≤ p) (hq : 0 ≤ q) (hp1 : p ≤ ρ) (hq1 : q ≤ ρ) (h0 : p = 0 ∨ q = 0) :
    cvP (x + 1/3) = 1 ∧ ρ * cvP x = p ∧ ρ * cvP (x - 1/3) = q := by
  have a1 : x ≤ 1/6 := Rat.le_of_mul_le_mul_right (c := ρ) (by grind) hρ
  have a2 : -(1/6) ≤ x := Rat.le_of_mul_le_mul_right (c := ρ) (by grind) hρ
  have c1 : cvP (x + 1/3) = cv (x + 1/3) := cvP_of (k := 0) (by rw [Rat.intCast_zero]; grind) (by grind) (by grind)
  refine ⟨?_, ?_, ?_⟩
  · rw [c1]; unfold cv; grind
  · by_cases n : x < 0
    · have hq' : p = 0 := by
        rcases h0 with z | z
        · exact z
        · have := Rat.mul_lt_mul_of_pos_right n hρ
          grind
      have c2 : cvP x = cv (x + 1) := cvP_of (k := -1) (by rw [Rat.intCast_neg, Rat.intCast_one]; grind) (by grind) (by grind)
      rw [c2]
      have : cv (x + 1) = 0 := by unfold cv; grind
      rw [this, hq']; grind
    · have hq' : q = 0 := by
        rcases h0 with z | z
        · have := Rat.mul_le_mul_of_nonneg_right (show 0 ≤ x by grind) (Rat.le_of_lt hρ)
          grind
        · exact z
      have c2 : cvP x = cv x := cvP_of (k := 0) (by rw [Rat.intCast_zero]; grind) (by grind) (by grind)
      rw [c2]
      have : cv x = 6 * x := by unfold cv; grind
      rw [this]; grind
  · have c2 : cvP (x - 1/3) = cv (x + 2/3) := cvP_of (k := -1) (by rw [Rat.intCast_neg, Rat.intCast_one]; grind) (by grind) (by grind)
    rw [c2]
    by_cases n : x < 0
    · have hq' : p = 0 := by
        rcases h0 with z | z
        · exact z
        · have := Rat.mul_lt_mul_of_pos_right n hρ
          grind
      have : cv (x + 2/3) = -6 * x := by unfold cv; grind
      rw [this]; grind
    · have hq' : q = 0 := by
        rcases h0 with z | z
        · have := Rat.mul_le_mul_of_nonneg_right (show 0 ≤ x by grind) (Rat.le_of_lt hρ)
          grind
        · exact z
      have : cv (x + 2/3) = 0 := by unfold cv; grind
      rw [this, hq']; grind
end Mine

end
section
open PySem PySem.Float64
namespace Mine

theorem k6i : FF 4595172819793696085 ∧ fv 4595172819793696085 = 6004799503160661 / 2 ^ 55 := ⟨by decide +kernel, by have := fv_const (x := 4595172819793696085) (m := 6004799503160661) (j := 1019) (k := 55) (by decide +kernel) (by decide); simpa using this⟩
theorem k3i : FF 4599676419421066581 ∧ fv 4599676419421066581 = 6004799503160661 / 2 ^ 54 := ⟨by decide +kernel, by have := fv_const (x := 4599676419421066581) (m := 6004799503160661) (j := 1020) (k := 54) (by decide +kernel) (by decide); simpa using this⟩
theorem k23 : FF 4604180019048437077 ∧ fv 4604180019048437077 = 6004799503160661 / 2 ^ 53 := ⟨by decide +kernel, by have := fv_const (x := 4604180019048437077) (m := 6004799503160661) (j := 1021) (k := 53) (by decide +kernel) (by decide); simpa using this⟩
theorem kh : FF 4602678819172646912 ∧ fv 4602678819172646912 = 1 / 2 := ⟨by decide +kernel, by have := fv_const (x := 4602678819172646912) (m := 1) (j := 1073) (k := 1) (by decide +kernel) (by decide); simpa using this⟩
theorem k2 : FF 4611686018427387904 ∧ fv 4611686018427387904 = 2 := ⟨by decide +kernel, by have := fv_const (x := 4611686018427387904) (m := 2) (j := 1074) (k := 0) (by decide +kernel) (by decide); rw [this]; decide +kernel⟩
theorem k4 : FF 4616189618054758400 ∧ fv 4616189618054758400 = 4 := ⟨by decide +kernel, by have := fv_const (x := 4616189618054758400) (m := 4) (j := 1074) (k := 0) (by decide +kernel) (by decide); rw [this]; decide +kernel⟩
theorem k6 : FF 4618441417868443648 ∧ fv 4618441417868443648 = 6 := ⟨by decide +kernel, by have := fv_const (x := 4618441417868443648) (m := 6) (j := 1074) (k := 0) (by decide +kernel) (by decide); rw [this]; decide +kernel⟩

theorem Rd.err4 {r : UInt64} {q : Rat} (h : Rd r q) (h1 : -4 ≤ q) (h2 : q ≤ 4) : FF r ∧ fv r - q ≤ 2 / 2 ^ 53 ∧ q - fv r ≤ 2 / 2 ^ 53 := by
  have e : (2 : Rat) ^ 2 = 4 := by decide +kernel
  have := h.errp 2 (by rw [e]; exact h1) (by rw [e]; exact h2)
  rw [e] at this
  exact ⟨this.1, by grind, by grind⟩
theorem Rd.err8 {r : UInt64} {q : Rat} (h : Rd r q) (h1 : -8 ≤ q) (h2 : q ≤ 8) : FF r ∧ fv r - q ≤ 4 / 2 ^ 53 ∧ q - fv r ≤ 4 / 2 ^ 53 := by
  have e : (2 : Rat) ^ 3 = 8 := by decide +kernel
  have := h.errp 3 (by rw [e]; exact h1) (by rw [e]; exact h2)
  rw [e] at this
  exact ⟨this.1, by grind, by grind⟩
theorem Rd.errq {r : UInt64} {q : Rat} (h : Rd r q) (h1 : -(1/4) ≤ q) (h2 : q ≤ 1/4) : FF r ∧ fv r - q ≤ 1 / 2 ^ 56 ∧ q - fv r ≤ 1 / 2 ^ 56 := by
  have e : (2 : Rat) ^ 2 = 4 := by decide +kernel
  have := h.erri 2 (by rw [e]; exact h1) (by rw [e]; exact h2)
  rw [e] at this
  exact ⟨this.1, by grind, by grind⟩

/-- _v -/
noncomputable def vT (m1 m2 h : UInt64) : UInt64 := if (Float64.cmp h 4595172819793696085 == some .lt) = true then Float64.add m1 (Float64.mul (Float64.mul (Float64.sub m2 m1) h) 4618441417868443648)
  else if (Float64.cmp h 4602678819172646912 == some .lt) = true then m2
  else if (Float64.cmp h 4604180019048437077 == some .lt) = true then Float64.add m1 (Float64.mul (Float64.mul (Float64.sub m2 m1) (Float64.sub 4604180019048437077 h)) 4618441417868443648) else m1
noncomputable def vF (m1 m2 hue : UInt64) : UInt64 := vT m1 m2 (mod1 hue)
theorem vT_eq {m1 m2 h : UInt64} (fh : FF h) : vT m1 m2 h = if fv h < 6004799503160661 / 2 ^ 55 then Float64.add m1 (Float64.mul (Float64.mul (Float64.sub m2 m1) h) 4618441417868443648)
  else if fv h < 1 / 2 then m2
  else if fv h < 6004799503160661 / 2 ^ 53 then Float64.add m1 (Float64.mul (Float64.mul (Float64.sub m2 m1) (Float64.sub 4604180019048437077 h)) 4618441417868443648) else m1 := by
  unfold vT
  rw [cmp_lt fh k6i.1, cmp_lt fh kh.1, cmp_lt fh k23.1, k6i.2, kh.2, k23.2]
  simp only [decide_eq_true_eq]

theorem mulc {a b x e c : Rat} (h1 : a - b ≤ e) (h2 : b - a ≤ e) (hx : 0 ≤ x) (hc : x ≤ c) (he : 0 ≤ e) : a * x - b * x ≤ e * c ∧ b * x - a * x ≤ e * c := by
  have a1 := Rat.mul_le_mul_of_nonneg_right h1 hx
  have a2 := Rat.mul_le_mul_of_nonneg_right h2 hx
  have a3 := Rat.mul_le_mul_of_nonneg_left hc he
  exact ⟨by grind, by grind⟩
/-- x in [0,c], |a| ≤ d -/
theorem mulb {a x d c : Rat} (h1 : a ≤ d) (h2 : -d ≤ a) (hx : 0 ≤ x) (hc : x ≤ c) : a * x ≤ d * c ∧ -(d * c) ≤ a * x := by
  have hd : 0 ≤ d := by grind
  have a1 := Rat.mul_le_mul_of_nonneg_right h1 hx
  have a2 := Rat.mul_le_mul_of_nonneg_right h2 hx
  have a3 := Rat.mul_le_mul_of_nonneg_left hc hd
  exact ⟨by grind, by grind⟩

theorem ramp_err {m1 m2 x : UInt64} {y : Rat} (f1 : FF m1) (f2 : FF m2) (fx : FF x) (a1 : -(1/8) ≤ fv m1) (a2 : fv m1 ≤ 9/8) (b1 : -(1/8) ≤ fv m2) (b2 : fv m2 ≤ 9/8)
    (d1 : fv m2 - fv m1 ≤ 9/8) (d2 : -(9/8) ≤ fv m2 - fv m1) (x0 : 0 ≤ fv x) (x1 : fv x ≤ 1/6) (y0 : 0 ≤ y) (y1 : y ≤ 1/6) (e1 : fv x - y ≤ 1/2^54) (e2 : y - fv x ≤ 1/2^54) :
    FF (Float64.add m1 (Float64.mul (Float64.mul (Float64.sub m2 m1) x) 4618441417868443648)) ∧
    fv (Float64.add m1 (Float64.mul (Float64.mul (Float64.sub m2 m1) x) 4618441417868443648)) - (fv m1 + (fv m2 - fv m1) * (6 * y)) ≤ 10 / 2^53 ∧
    (fv m1 + (fv m2 - fv m1) * (6 * y)) - fv (Float64.add m1 (Float64.mul (Float64.mul (Float64.sub m2 m1) x) 4618441417868443648)) ≤ 10 / 2^53 := by
  obtain ⟨fd, p1, q1⟩ := (Rd_sub f2 f1).err2 (by grind) (by grind)
  generalize Float64.sub m2 m1 = D at *
  have pb := mulb (d := 5/4) (a := fv D) (by grind) (by grind) x0 x1
  obtain ⟨fp, p2, q2⟩ := (Rd_mul fd fx).errq (by grind) (by grind)
  generalize Float64.mul D x = P at *
  have e3 := mulc (c := 1/6) p1 q1 x0 x1 (by decide +kernel)
  have e4 := mulb (a := fv x - y) (d := 1/2^54) (x := 1) (c := 1) e1 (by grind) (by decide) (by decide)
  have e5 : (fv m2 - fv m1) * (fv x - y) ≤ 9/8 * (1/2^54) ∧ -(9/8 * (1/2^54)) ≤ (fv m2 - fv m1) * (fv x - y) := by
    by_cases z : 0 ≤ fv x - y
    · exact mulb (d := 9/8) (by grind) (by grind) z e1
    · have := mulb (a := fv m2 - fv m1) (x := y - fv x) (d := 9/8) (by grind) (by grind) (by grind) e2
      exact ⟨by grind, by grind⟩
  obtain ⟨ft, p3, q3⟩ := (Rd_mul fp k6.1).err2 (by rw [k6.2]; grind) (by rw [k6.2]; grind)
  rw [k6.2] at p3 q3
  generalize Float64.mul P 4618441417868443648 = T at *
  obtain ⟨fr, p4, q4⟩ := (Rd_add f1 ft).err4 (by grind) (by grind)
  have e6 := mulb (a := fv m2 - fv m1) (d := 9/8) (x := y) (c := 1/6) d1 d2 y0 y1
  exact ⟨fr, by grind, by grind⟩

theorem vF_err {m1 m2 hue : UInt64} (f1 : FF m1) (f2 : FF m2) (fx : FF hue) (a1 : -(1/8) ≤ fv m1) (a2 : fv m1 ≤ 9/8) (b1 : -(1/8) ≤ fv m2) (b2 : fv m2 ≤ 9/8)
    (d1 : fv m2 - fv m1 ≤ 9/8) (d2 : -(9/8) ≤ fv m2 - fv m1) :
    FF (vF m1 m2 hue) ∧ fv (vF m1 m2 hue) - (fv m1 + (fv m2 - fv m1) * cvP (fv hue)) ≤ 16 / 2^53 ∧ (fv m1 + (fv m2 - fv m1) * cvP (fv hue)) - fv (vF m1 m2 hue) ≤ 16 / 2^53 := by
  obtain ⟨fh, h0, h1, k, f, hk, g0, g1, hf⟩ := mod1_spec fx
  have hc := cvP_of hk g0 g1
  unfold vF
  generalize mod1 hue = h at *
  have ef : fv h - f ≤ 1/2^54 ∧ f - fv h ≤ 1/2^54 := by
    rcases hf with z | ⟨_, z⟩
    · rw [z]; exact ⟨by grind, by grind⟩
    · exact (z.err1 (by grind) (by grind)).2
  have hcc : cv (fv h) - cv f ≤ 6 * (1/2^54) ∧ cv f - cv (fv h) ≤ 6 * (1/2^54) := by
    by_cases z : f ≤ fv h
    · have := cv_lip g0 z; grind
    · have := cv_lip h0 (show fv h ≤ f by grind); grind
  have key : FF (vT m1 m2 h) ∧ fv (vT m1 m2 h) - (fv m1 + (fv m2 - fv m1) * cv (fv h)) ≤ 12 / 2^53 ∧ (fv m1 + (fv m2 - fv m1) * cv (fv h)) - fv (vT m1 m2 h) ≤ 12 / 2^53 := by
    rw [vT_eq fh]
    by_cases z1 : fv h < 6004799503160661 / 2 ^ 55
    · rw [if_pos z1]
      have := ramp_err (y := fv h) f1 f2 fh a1 a2 b1 b2 d1 d2 h0 (by grind) h0 (by grind) (by grind) (by grind)
      have e : cv (fv h) = 6 * fv h := by unfold cv; grind
      rw [e]
      exact ⟨this.1, by grind, by grind⟩
    · rw [if_neg z1]
      by_cases z2 : fv h < 1/2
      · rw [if_pos z2]
        have e : 1 - cv (fv h) ≤ 1/2^53 ∧ 0 ≤ 1 - cv (fv h) := by unfold cv; grind
        have := mulb (a := fv m2 - fv m1) d1 d2 e.2 e.1
        exact ⟨f2, by grind, by grind⟩
      · rw [if_neg z2]
        by_cases z3 : fv h < 6004799503160661 / 2 ^ 53
        · rw [if_pos z3]
          obtain ⟨fs, s1, s2⟩ := (Rd_sub k23.1 fh).errq (by rw [k23.2]; grind) (by rw [k23.2]; grind)
          have s0 := (Rd_sub k23.1 fh).ge fs (f := 0) ⟨0, 0, by decide, by simp⟩ (by rw [k23.2]; grind)
          have s3 := (Rd_sub k23.1 fh).le fs (f := 6004799503160661 / 2 ^ 55) (by rw [← k6i.2]; exact Rp_fv k6i.1) (by rw [k23.2]; grind)
          rw [k23.2] at s1 s2
          have := ramp_err (y := 2/3 - fv h) f1 f2 fs a1 a2 b1 b2 d1 d2 s0 (by grind) (by grind) (by grind) (by grind) (by grind)
          have e : cv (fv h) = 6 * (2/3 - fv h) := by unfold cv; grind
          rw [e]
          exact ⟨this.1, by grind, by grind⟩
        · rw [if_neg z3]
          have e : cv (fv h) ≤ 6/2^53 ∧ 0 ≤ cv (fv h) := by unfold cv; grind
          have := mulb (a := fv m2 - fv m1) d1 d2 e.2 e.1
          exact ⟨f1, by grind, by grind⟩
  rw [hc]
  have e5 : (fv m2 - fv m1) * (cv (fv h) - cv f) ≤ 9/8 * (6 * (1/2^54)) ∧ -(9/8 * (6 * (1/2^54))) ≤ (fv m2 - fv m1) * (cv (fv h) - cv f) := by
    by_cases z : 0 ≤ cv (fv h) - cv f
    · exact mulb (d := 9/8) (by grind) (by grind) z hcc.1
    · have := mulb (a := fv m2 - fv m1) (x := cv f - cv (fv h)) (d := 9/8) (by grind) (by grind) (by grind) hcc.2
      exact ⟨by grind, by grind⟩
  exact ⟨key.1, by grind, by grind⟩
end Mine

end
section
open PySem PySem.Float64
namespace Mine

noncomputable def leF (x y : UInt64) : Bool := Float64.cmp x y == some .lt || Float64.cmp x y == some .eq
/-- hls_to_rgb -/
noncomputable def hlsM2 (l s : UInt64) : UInt64 := if leF l 4602678819172646912 = true then Float64.mul l (Float64.add 4607182418800017408 s) else Float64.sub (Float64.add l s) (Float64.mul l s)
noncomputable def hlsM1 (l s : UInt64) : UInt64 := Float64.sub (Float64.mul 4611686018427387904 l) (hlsM2 l s)
noncomputable def hlsC (ha l s : UInt64) : UInt64 := if (Float64.cmp s 0 == some .eq) = true then l else vF (hlsM1 l s) (hlsM2 l s) ha

noncomputable def nearE (l : Rat) : Rat := if l ≤ 1/2 then l else 1 - l
theorem nearE_bd {l : Rat} (h0 : 0 ≤ l) (h1 : l ≤ 1) : 0 ≤ nearE l ∧ nearE l ≤ 1/2 ∧ nearE l ≤ l ∧ nearE l ≤ 1 - l := by
  unfold nearE
  refine ⟨?_, ?_, ?_, ?_⟩ <;> grind

theorem hlsM_err {l s : UInt64} (fl : FF l) (fs : FF s) (l0 : 0 ≤ fv l) (l1 : fv l ≤ 1) (s0 : 0 ≤ fv s) (s1 : fv s ≤ 1) :
    (FF (hlsM2 l s) ∧ fv (hlsM2 l s) - (fv l + fv s * nearE (fv l)) ≤ 3 / 2^53 ∧ (fv l + fv s * nearE (fv l)) - fv (hlsM2 l s) ≤ 3 / 2^53) ∧
    (FF (hlsM1 l s) ∧ fv (hlsM1 l s) - (fv l - fv s * nearE (fv l)) ≤ 5 / 2^53 ∧ (fv l - fv s * nearE (fv l)) - fv (hlsM1 l s) ≤ 5 / 2^53) := by
  have b := mulb (a := fv s) (d := 1) s1 (by grind) l0 l1
  have nb := nearE_bd l0 l1
  have b' := mulb (a := fv s) (d := 1) s1 (by grind) nb.1 nb.2.1
  have b0 := Rat.mul_nonneg s0 nb.1
  have b3 := Rat.mul_le_mul_of_nonneg_right s1 nb.1
  have key : FF (hlsM2 l s) ∧ fv (hlsM2 l s) - (fv l + fv s * nearE (fv l)) ≤ 3 / 2^53 ∧ (fv l + fv s * nearE (fv l)) - fv (hlsM2 l s) ≤ 3 / 2^53 := by
    unfold hlsM2 leF
    rw [cmp_le fl kh.1, kh.2]
    by_cases z : fv l ≤ 1/2
    · rw [if_pos (by simpa using z)]
      have e : nearE (fv l) = fv l := by unfold nearE; rw [if_pos z]
      rw [e]
      obtain ⟨f1, p1, q1⟩ := (Rd_add fv1.1 fs).err2 (by rw [fv1.2]; grind) (by rw [fv1.2]; grind)
      rw [fv1.2] at p1 q1
      generalize Float64.add 4607182418800017408 s = a at *
      have c := mulc p1 q1 l0 z (by decide +kernel)
      obtain ⟨f2, p2, q2⟩ := (Rd_mul fl f1).err2 (by grind) (by grind)
      exact ⟨f2, by grind, by grind⟩
    · rw [if_neg (by simpa using z)]
      have e : nearE (fv l) = 1 - fv l := by unfold nearE; rw [if_neg z]
      rw [e] at b' ⊢
      obtain ⟨f1, p1, q1⟩ := (Rd_add fl fs).err2 (by grind) (by grind)
      obtain ⟨f2, p2, q2⟩ := (Rd_mul fl fs).err1 (by grind) (by grind)
      obtain ⟨f3, p3, q3⟩ := (Rd_sub f1 f2).err2 (by grind) (by grind)
      exact ⟨f3, by grind, by grind⟩
  refine ⟨key, ?_⟩
  obtain ⟨f0, p0, q0⟩ := key
  unfold hlsM1
  generalize hlsM2 l s = m2 at *
  have e2 := Rd_mul k2.1 fl
  rw [k2.2] at e2
  obtain ⟨f1, p1, q1⟩ := e2.err2 (by grind) (by grind)
  obtain ⟨f2, p2, q2⟩ := (Rd_sub f1 f0).err2 (by grind) (by grind)
  exact ⟨f2, by grind, by grind⟩

/-- a component of hls_to_rgb -/
theorem hlsC_err {ha l s : UInt64} {x E : Rat} (fh : FF ha) (fl : FF l) (fs : FF s) (l0 : 0 ≤ fv l) (l1 : fv l ≤ 1) (s0 : 0 ≤ fv s) (s1 : fv s ≤ 1) (e1 : fv ha - x ≤ E) (e2 : x - fv ha ≤ E) :
    FF (hlsC ha l s) ∧ fv (hlsC ha l s) - (fv l - fv s * nearE (fv l) + 2 * (fv s * nearE (fv l)) * cvP x) ≤ 24 / 2^53 + 6 * E ∧ (fv l - fv s * nearE (fv l) + 2 * (fv s * nearE (fv l)) * cvP x) - fv (hlsC ha l s) ≤ 24 / 2^53 + 6 * E := by
  have hE : 0 ≤ E := by grind
  unfold hlsC
  rw [cmp_eq fs fv0.1, fv0.2]
  by_cases z : fv s = 0
  · rw [if_pos (by simpa using z), z]
    exact ⟨fl, by grind, by grind⟩
  rw [if_neg (by simpa using z)]
  obtain ⟨⟨f2, p2, q2⟩, f1, p1, q1⟩ := hlsM_err fl fs l0 l1 s0 s1
  have nb := nearE_bd l0 l1
  have b0 := Rat.mul_nonneg s0 nb.1
  have b3 := Rat.mul_le_mul_of_nonneg_right s1 nb.1
  generalize hlsM2 l s = m2 at *
  generalize hlsM1 l s = m1 at *
  obtain ⟨fv', p3, q3⟩ := vF_err (hue := ha) f1 f2 fh (by grind) (by grind) (by grind) (by grind) (by grind) (by grind)
  have lip := cvP_lip e1 e2
  have cb := cvP_bd (fv ha)
  have cb' := cvP_bd x
  generalize fv s * nearE (fv l) = w at *
  have m1' := mulc (a := fv m1) (b := fv l - w) (x := 1 - cvP (fv ha)) (c := 1) p1 q1 (by grind) (by grind) (by decide +kernel)
  have m2' := mulc (a := fv m2) (b := fv l + w) (x := cvP (fv ha)) (c := 1) p2 q2 (by grind) (by grind) (by decide +kernel)
  have m3 := mulc (a := cvP (fv ha)) (b := cvP x) (x := 2 * w) (c := 1) lip.1 lip.2 (by grind) (by grind) (by grind)
  exact ⟨fv', by grind, by grind⟩
end Mine

end
section
open PySem PySem.Float64
namespace Mine

theorem mx_fv {a b : UInt64} (ha : FF a) (hb : FF b) : FF (mx a b) ∧ fv (mx a b) = if fv a < fv b then fv b else fv a := by
  unfold mx
  rw [cmp_lt ha hb]
  by_cases z : fv a < fv b <;> simp [z] <;> assumption
theorem mn_fv {a b : UInt64} (ha : FF a) (hb : FF b) : FF (mn a b) ∧ fv (mn a b) = if fv b < fv a then fv b else fv a := by
  unfold mn
  rw [cmp_lt hb ha]
  by_cases z : fv b < fv a <;> simp [z] <;> assumption

noncomputable def mx3 (r g b : UInt64) : UInt64 := mx (mx r g) b
noncomputable def mn3 (r g b : UInt64) : UInt64 := mn (mn r g) b
theorem mx3_fv {r g b : UInt64} (hr : FF r) (hg : FF g) (hb : FF b) : FF (mx3 r g b) ∧ fv r ≤ fv (mx3 r g b) ∧ fv g ≤ fv (mx3 r g b) ∧ fv b ≤ fv (mx3 r g b) ∧ (fv (mx3 r g b) = fv r ∨ fv (mx3 r g b) = fv g ∨ fv (mx3 r g b) = fv b) := by
  obtain ⟨f1, e1⟩ := mx_fv hr hg
  obtain ⟨f2, e2⟩ := mx_fv f1 hb
  unfold mx3
  rw [e1] at e2
  rw [e2]
  exact ⟨f2, by grind, by grind, by grind, by grind⟩
theorem mn3_fv {r g b : UInt64} (hr : FF r) (hg : FF g) (hb : FF b) : FF (mn3 r g b) ∧ fv (mn3 r g b) ≤ fv r ∧ fv (mn3 r g b) ≤ fv g ∧ fv (mn3 r g b) ≤ fv b ∧ (fv (mn3 r g b) = fv r ∨ fv (mn3 r g b) = fv g ∨ fv (mn3 r g b) = fv b) := by
  obtain ⟨f1, e1⟩ := mn_fv hr hg
  obtain ⟨f2, e2⟩ := mn_fv f1 hb
  unfold mn3
  rw [e1] at e2
  rw [e2]
  exact ⟨f2, by grind, by grind, by grind, by grind⟩

/-- (maxc - r) / rangec -/
noncomputable def rcF (M N r : UInt64) : UInt64 := Float64.div (Float64.sub M r) (Float64.sub M N)
theorem Rp0 : Rp 0 := ⟨0, 0, by decide, by simp⟩
theorem big900 : (2 : Rat) ≤ 2 ^ 900 := by have := pow_mono2 (a := 1) (b := 900) (by decide); simpa using this

theorem range_pos {M N : UInt64} (fM : FF M) (fN : FF N) (h : fv N < fv M) (hb : fv M - fv N ≤ 2) : FF (Float64.sub M N) ∧ 0 < fv (Float64.sub M N) ∧ fv (Float64.sub M N) - (fv M - fv N) ≤ (fv M - fv N) / 2^53 ∧ (fv M - fv N) - fv (Float64.sub M N) ≤ (fv M - fv N) / 2^53 := by
  have b9 := big900
  obtain ⟨f, p, q⟩ := rel_sub fM fN (by grind) (by grind)
  exact ⟨f, by grind, p, q⟩

theorem rc_err {M N r : UInt64} (fM : FF M) (fN : FF N) (fr : FF r) (h1 : fv N ≤ fv r) (h2 : fv r ≤ fv M) (h : fv N < fv M) (hb : fv M - fv N ≤ 2) :
    ∃ a : Rat, a * (fv M - fv N) = fv M - fv r ∧ 0 ≤ a ∧ a ≤ 1 ∧ FF (rcF M N r) ∧ fv (rcF M N r) - a ≤ 3 / 2^53 ∧ a - fv (rcF M N r) ≤ 3 / 2^53 ∧ 0 ≤ fv (rcF M N r) ∧ fv (rcF M N r) ≤ 1 := by
  have b9 := big900
  obtain ⟨fP, P0, p1, q1⟩ := range_pos fM fN h hb
  obtain ⟨fX, p2, q2⟩ := rel_sub fM fr h2 (by grind)
  have X0 := (Rd_sub fM fr).ge fX Rp0 (by grind)
  have XP := (Rd_sub fM fr).mono (Rd_sub fM fN) fX fP (by grind)
  unfold rcF
  generalize Float64.sub M N = P at *
  generalize Float64.sub M r = X at *
  have hne : fv P ≠ 0 := by grind
  have hd := Rd_div fX fP hne
  have eq : fv X / fv P * fv P = fv X := Rat.div_mul_cancel hne
  generalize fv X / fv P = q at *
  have ρ0 : 0 < fv M - fv N := by grind
  have q0 : 0 ≤ q := Rat.le_of_mul_le_mul_right (c := fv P) (by grind) P0
  have q1' : q ≤ 1 := Rat.le_of_mul_le_mul_right (c := fv P) (by grind) P0
  obtain ⟨fr', p3, q3⟩ := hd.err1 (by grind) q1'
  have r0 := hd.ge fr' Rp0 q0
  have r1 := hd.le fr' one_Rp q1'
  have hρ : fv M - fv N ≠ 0 := by grind
  have ea : (fv M - fv r) / (fv M - fv N) * (fv M - fv N) = fv M - fv r := Rat.div_mul_cancel hρ
  generalize (fv M - fv r) / (fv M - fv N) = a at *
  have a0 : 0 ≤ a := Rat.le_of_mul_le_mul_right (c := fv M - fv N) (by grind) ρ0
  have a1 : a ≤ 1 := Rat.le_of_mul_le_mul_right (c := fv M - fv N) (by grind) ρ0
  refine ⟨a, ea, a0, a1, fr', ?_, ?_, r0, r1⟩
  · have c := mulc (a := fv P) (b := fv M - fv N) (x := q) (c := 1) p1 q1 q0 q1' (by grind)
    apply Rat.le_of_mul_le_mul_right (c := fv M - fv N) _ ρ0
    have d := Rat.mul_le_mul_of_nonneg_right p3 (Rat.le_of_lt ρ0)
    generalize fv M - fv N = ρ at *
    grind
  · have c := mulc (a := fv P) (b := fv M - fv N) (x := q) (c := 1) p1 q1 q0 q1' (by grind)
    apply Rat.le_of_mul_le_mul_right (c := fv M - fv N) _ ρ0
    have d := Rat.mul_le_mul_of_nonneg_right q3 (Rat.le_of_lt ρ0)
    generalize fv M - fv N = ρ at *
    grind

/-- rgb_to_hls's hue -/
noncomputable def hue0 (M N r g b : UInt64) : UInt64 := if (Float64.cmp r M == some .eq) = true then Float64.sub (rcF M N b) (rcF M N g)
  else if (Float64.cmp g M == some .eq) = true then Float64.sub (Float64.add 4611686018427387904 (rcF M N r)) (rcF M N b)
  else Float64.sub (Float64.add 4616189618054758400 (rcF M N g)) (rcF M N r)
noncomputable def hueF (M N r g b : UInt64) : UInt64 := mod1 (Float64.div (hue0 M N r g b) 4618441417868443648)

theorem hue0_err {M N r g b : UInt64} (fM : FF M) (fN : FF N) (fr : FF r) (fg : FF g) (fb : FF b) (r1 : fv N ≤ fv r) (r2 : fv r ≤ fv M) (g1 : fv N ≤ fv g) (g2 : fv g ≤ fv M) (b1 : fv N ≤ fv b) (b2 : fv b ≤ fv M)
    (hM : fv M = fv r ∨ fv M = fv g ∨ fv M = fv b) (hN : fv N = fv r ∨ fv N = fv g ∨ fv N = fv b) (h : fv N < fv M) (hb : fv M - fv N ≤ 2) :
    ∃ x : Rat, FF (hue0 M N r g b) ∧ fv (hue0 M N r g b) - 6 * x ≤ 14 / 2^53 ∧ 6 * x - fv (hue0 M N r g b) ≤ 14 / 2^53 ∧ -1 ≤ 6 * x ∧ 6 * x ≤ 5 ∧
      fv r = fv N + (fv M - fv N) * cvP (x + 1/3) ∧ fv g = fv N + (fv M - fv N) * cvP x ∧ fv b = fv N + (fv M - fv N) * cvP (x - 1/3) := by
  obtain ⟨ar, er, r3, r4, r5, r6, r7, r8, r9⟩ := rc_err fM fN fr r1 r2 h hb
  obtain ⟨ag, eg, g3, g4, g5, g6, g7, g8, g9⟩ := rc_err fM fN fg g1 g2 h hb
  obtain ⟨ab, eb, b3, b4, b5, b6, b7, b8, b9⟩ := rc_err fM fN fb b1 b2 h hb
  unfold hue0
  rw [cmp_eq fr fM, cmp_eq fg fM]
  generalize rcF M N r = rc at *
  generalize rcF M N g = gc at *
  generalize rcF M N b = bc at *
  have ρ0 : 0 < fv M - fv N := by grind
  by_cases z1 : fv r = fv M
  · rw [if_pos (by simpa using z1)]
    obtain ⟨f, p, q⟩ := (Rd_sub b5 g5).err1 (by grind) (by grind)
    have base := cvP_base (x := (ab - ag) / 6) (ρ := fv M - fv N) (p := fv g - fv N) (q := fv b - fv N) ρ0 (by grind) (by grind) (by grind) (by grind) (by grind) (by grind)
    refine ⟨(ab - ag) / 6, f, by grind, by grind, by grind, by grind, ?_, ?_, ?_⟩
    · rw [base.1]; grind
    · rw [base.2.1]; grind
    · rw [base.2.2]; grind
  · rw [if_neg (by simpa using z1)]
    by_cases z2 : fv g = fv M
    · rw [if_pos (by simpa using z2)]
      have d1 := Rd_add k2.1 r5
      rw [k2.2] at d1
      obtain ⟨f1, p1, q1⟩ := d1.err4 (by grind) (by grind)
      obtain ⟨f, p, q⟩ := (Rd_sub f1 b5).err4 (by grind) (by grind)
      have base := cvP_base (x := (ar - ab) / 6) (ρ := fv M - fv N) (p := fv b - fv N) (q := fv r - fv N) ρ0 (by grind) (by grind) (by grind) (by grind) (by grind) (by grind)
      refine ⟨(ar - ab) / 6 + 1/3, f, by grind, by grind, by grind, by grind, ?_, ?_, ?_⟩
      · rw [show (ar - ab) / 6 + 1/3 + 1/3 = (ar - ab) / 6 - 1/3 + (1 : Int) by rw [Rat.intCast_one]; grind, cvP_add, base.2.2]; grind
      · rw [base.1]; grind
      · rw [show (ar - ab) / 6 + 1/3 - 1/3 = (ar - ab) / 6 by grind, base.2.1]; grind
    · rw [if_neg (by simpa using z2)]
      have d1 := Rd_add k4.1 g5
      rw [k4.2] at d1
      obtain ⟨f1, p1, q1⟩ := d1.err8 (by grind) (by grind)
      obtain ⟨f, p, q⟩ := (Rd_sub f1 r5).err8 (by grind) (by grind)
      have base := cvP_base (x := (ag - ar) / 6) (ρ := fv M - fv N) (p := fv r - fv N) (q := fv g - fv N) ρ0 (by grind) (by grind) (by grind) (by grind) (by grind) (by grind)
      refine ⟨(ag - ar) / 6 + 2/3, f, by grind, by grind, by grind, by grind, ?_, ?_, ?_⟩
      · rw [show (ag - ar) / 6 + 2/3 + 1/3 = (ag - ar) / 6 + (1 : Int) by rw [Rat.intCast_one]; grind, cvP_add, base.2.1]; grind
      · rw [show (ag - ar) / 6 + 2/3 = (ag - ar) / 6 - 1/3 + (1 : Int) by rw [Rat.intCast_one]; grind, cvP_add, base.2.2]; grind
      · rw [show (ag - ar) / 6 + 2/3 - 1/3 = (ag - ar) / 6 + 1/3 by grind, base.1]; grind

theorem cvP_sub (x : Rat) (k : Int) : cvP (x - k) = cvP x := by
  have := cvP_add (x - k) k
  rwa [show x - k + k = x by grind, eq_comm] at this

theorem hueF_err {M N r g b : UInt64} (fM : FF M) (fN : FF N) (fr : FF r) (fg : FF g) (fb : FF b) (r1 : fv N ≤ fv r) (r2 : fv r ≤ fv M) (g1 : fv N ≤ fv g) (g2 : fv g ≤ fv M) (b1 : fv N ≤ fv b) (b2 : fv b ≤ fv M)
    (hM : fv M = fv r ∨ fv M = fv g ∨ fv M = fv b) (hN : fv N = fv r ∨ fv N = fv g ∨ fv N = fv b) (h : fv N < fv M) (hb : fv M - fv N ≤ 2) :
    ∃ x : Rat, FF (hueF M N r g b) ∧ fv (hueF M N r g b) - x ≤ 4 / 2^53 ∧ x - fv (hueF M N r g b) ≤ 4 / 2^53 ∧ 0 ≤ fv (hueF M N r g b) ∧ fv (hueF M N r g b) ≤ 1 ∧
      fv r = fv N + (fv M - fv N) * cvP (x + 1/3) ∧ fv g = fv N + (fv M - fv N) * cvP x ∧ fv b = fv N + (fv M - fv N) * cvP (x - 1/3) := by
  obtain ⟨x, f0, p0, q0, x1, x2, er, eg, eb⟩ := hue0_err fM fN fr fg fb r1 r2 g1 g2 b1 b2 hM hN h hb
  unfold hueF
  generalize hue0 M N r g b = H at *
  have hd := Rd_div f0 k6.1 (by rw [k6.2]; decide)
  rw [k6.2] at hd
  obtain ⟨f1, p1, q1⟩ := hd.err1 (by grind) (by grind)
  obtain ⟨f2, h0, h1, k, f, hk, g0, g1', hf⟩ := mod1_spec f1
  generalize Float64.div H 4618441417868443648 = T at *
  generalize mod1 T = h at *
  have ef : fv h - f ≤ 1/2^54 ∧ f - fv h ≤ 1/2^54 := by
    rcases hf with z | ⟨_, z⟩
    · rw [z]; exact ⟨by grind, by grind⟩
    · exact (z.err1 (by grind) (by grind)).2
  refine ⟨x - k, f2, by grind, by grind, h0, h1, ?_, ?_, ?_⟩
  · rw [show x - k + 1/3 = x + 1/3 - k by grind, cvP_sub]; exact er
  · rw [cvP_sub]; exact eg
  · rw [show x - k - 1/3 = x - 1/3 - k by grind, cvP_sub]; exact eb
end Mine

end
section
open PySem PySem.Float64
namespace Mine

noncomputable def litF (M N : UInt64) : UInt64 := Float64.div (Float64.add M N) 4611686018427387904
noncomputable def satF (M N : UInt64) : UInt64 := if leF (litF M N) 4602678819172646912 = true then Float64.div (Float64.sub M N) (Float64.add M N) else Float64.div (Float64.sub M N) (Float64.sub (Float64.sub 4611686018427387904 M) N)

theorem lit_err {M N : UInt64} (fM : FF M) (fN : FF N) (n0 : 0 ≤ fv N) (h : fv N ≤ fv M) (m1 : fv M ≤ 1) :
    FF (litF M N) ∧ fv (litF M N) - (fv M + fv N) / 2 ≤ 1 / 2^53 ∧ (fv M + fv N) / 2 - fv (litF M N) ≤ 1 / 2^53 ∧ fv N ≤ fv (litF M N) ∧ fv (litF M N) ≤ fv M := by
  have two : Rp 2 := by rw [← k2.2]; exact Rp_fv k2.1
  obtain ⟨f1, p1, q1⟩ := (Rd_add fM fN).err2 (by grind) (by grind)
  have hM2 := Rd_mul k2.1 fM
  have hN2 := Rd_mul k2.1 fN
  rw [k2.2] at hM2 hN2
  have s0 := (Rd_add fM fN).ge f1 Rp0 (by grind)
  have s2 := (Rd_add fM fN).le f1 two (by grind)
  unfold litF
  have hd := Rd_div f1 k2.1 (by rw [k2.2]; decide)
  rw [k2.2] at hd
  obtain ⟨f2, p2, q2⟩ := hd.err1 (by grind) (by grind)
  have dbl : ∀ f, Rp f → Rp (2 * f) := fun f ⟨m, k, hm, e⟩ => ⟨m, k + 1, hm, by rw [Nat.pow_succ, Rat.natCast_mul]; show _ = (m : Rat) * (((2 ^ k : Nat) : Rat) * 2); grind⟩
  have a1 := (Rd_add fM fN).ge f1 (dbl _ (Rp_fv fN)) (by grind)
  have a2 := (Rd_add fM fN).le f1 (dbl _ (Rp_fv fM)) (by grind)
  have b1 := hd.ge f2 (Rp_fv fN) (by grind)
  have b2 := hd.le f2 (Rp_fv fM) (by grind)
  exact ⟨f2, by grind, by grind, b1, b2⟩

theorem sat_den {M N : UInt64} (fM : FF M) (fN : FF N) (n0 : 0 ≤ fv N) (h : fv N < fv M) (m1 : fv M ≤ 1) :
    (FF (Float64.add M N) ∧ 0 < fv (Float64.add M N) ∧ fv (Float64.sub M N) ≤ fv (Float64.add M N) ∧ fv (Float64.add M N) ≤ 2) ∧
    (FF (Float64.sub (Float64.sub 4611686018427387904 M) N) ∧ 0 < fv (Float64.sub (Float64.sub 4611686018427387904 M) N) ∧ fv (Float64.sub M N) ≤ fv (Float64.sub (Float64.sub 4611686018427387904 M) N) ∧ fv (Float64.sub (Float64.sub 4611686018427387904 M) N) ≤ 2 ∧
      fv (Float64.sub (Float64.sub 4611686018427387904 M) N) - (2 - fv M - fv N) ≤ 2 / 2^53 ∧ (2 - fv M - fv N) - fv (Float64.sub (Float64.sub 4611686018427387904 M) N) ≤ 2 / 2^53) := by
  have two : Rp 2 := by rw [← k2.2]; exact Rp_fv k2.1
  obtain ⟨fP, P0, p1, q1⟩ := range_pos fM fN h (by grind)
  refine ⟨?_, ?_⟩
  · obtain ⟨f1, p1, q1⟩ := (Rd_add fM fN).err2 (by grind) (by grind)
    have a := (Rd_sub fM fN).mono (Rd_add fM fN) fP f1 (by grind)
    exact ⟨f1, by grind, a, (Rd_add fM fN).le f1 two (by grind)⟩
  · have h2 := Rd_sub k2.1 fM
    rw [k2.2] at h2
    obtain ⟨f1, p1, q1⟩ := h2.err2 (by grind) (by grind)
    have g1 := h2.ge f1 one_Rp (by grind)
    have g2 := h2.le f1 two (by grind)
    have h3 := Rd_sub f1 fN
    generalize Float64.sub 4611686018427387904 M = X at *
    obtain ⟨f3, p3, q3⟩ := h3.err2 (by grind) (by grind)
    have a := (Rd_sub fM fN).mono h3 fP f3 (by grind)
    exact ⟨f3, by grind, a, h3.le f3 two (by grind), by grind, by grind⟩

/-- s * den = range -/
theorem sat_quot {P D : UInt64} {ρ : Rat} (fP : FF P) (fD : FF D) (P0 : 0 ≤ fv P) (D0 : 0 < fv D) (hPD : fv P ≤ fv D) (hD : fv D ≤ 2) : FF (Float64.div P D) ∧ 0 ≤ fv (Float64.div P D) ∧ fv (Float64.div P D) ≤ 1 ∧
    fv (Float64.div P D) * fv D - fv P ≤ 1 / 2^53 ∧ fv P - fv (Float64.div P D) * fv D ≤ 1 / 2^53 := by
  have hne : fv D ≠ 0 := by grind
  have hd := Rd_div fP fD hne
  have eq : fv P / fv D * fv D = fv P := Rat.div_mul_cancel hne
  generalize fv P / fv D = q at *
  have q0 : 0 ≤ q := Rat.le_of_mul_le_mul_right (c := fv D) (by grind) D0
  have q1' : q ≤ 1 := Rat.le_of_mul_le_mul_right (c := fv D) (by grind) D0
  obtain ⟨fr', p3, q3⟩ := hd.err1 (by grind) q1'
  have c := mulc p3 q3 (Rat.le_of_lt D0) hD (by decide +kernel)
  exact ⟨fr', hd.ge fr' Rp0 q0, hd.le fr' one_Rp q1', by grind, by grind⟩

theorem sat_err {M N : UInt64} (fM : FF M) (fN : FF N) (n0 : 0 ≤ fv N) (h : fv N < fv M) (m1 : fv M ≤ 1) :
    FF (satF M N) ∧ 0 ≤ fv (satF M N) ∧ fv (satF M N) ≤ 1 ∧
      fv (satF M N) * nearE (fv (litF M N)) - (fv M - fv N) / 2 ≤ 4 / 2^53 ∧ (fv M - fv N) / 2 - fv (satF M N) * nearE (fv (litF M N)) ≤ 4 / 2^53 := by
  obtain ⟨fP, P0, p1, q1⟩ := range_pos fM fN h (by grind)
  obtain ⟨⟨fS, S0, PS, S2⟩, fD, D0, PD, D2, d1, d2⟩ := sat_den fM fN n0 h m1
  obtain ⟨fl, l1, l2, l3, l4⟩ := lit_err fM fN n0 (by grind) m1
  obtain ⟨_, s1, s2⟩ := (Rd_add fM fN).err2 (by grind) (by grind)
  unfold satF leF
  generalize litF M N = l at *
  rw [cmp_le fl kh.1, kh.2]
  by_cases z : fv l ≤ 1/2
  · rw [if_pos (by simpa using z)]
    have e : nearE (fv l) = fv l := by unfold nearE; rw [if_pos z]
    rw [e]
    obtain ⟨f, a0, a1, a2, a3⟩ := sat_quot (ρ := 0) fP fS (Rat.le_of_lt P0) S0 PS S2
    generalize Float64.div (Float64.sub M N) (Float64.add M N) = s at *
    have c := mulc (a := fv l) (b := fv (Float64.add M N) / 2) (x := fv s) (c := 1) (e := 2/2^53) (by grind) (by grind) a0 a1 (by decide +kernel)
    exact ⟨f, a0, a1, by grind, by grind⟩
  · rw [if_neg (by simpa using z)]
    have e : nearE (fv l) = 1 - fv l := by unfold nearE; rw [if_neg z]
    rw [e]
    obtain ⟨f, a0, a1, a2, a3⟩ := sat_quot (ρ := 0) fP fD (Rat.le_of_lt P0) D0 PD D2
    generalize Float64.sub (Float64.sub 4611686018427387904 M) N = D at *
    generalize Float64.div (Float64.sub M N) D = s at *
    have c := mulc (a := 1 - fv l) (b := fv D / 2) (x := fv s) (c := 1) (e := 2/2^53) (by grind) (by grind) a0 a1 (by decide +kernel)
    exact ⟨f, a0, a1, by grind, by grind⟩

theorem third_err {h : UInt64} (f : FF h) (h0 : 0 ≤ fv h) (h1 : fv h ≤ 1) :
    (FF (Float64.add h 4599676419421066581) ∧ fv (Float64.add h 4599676419421066581) - (fv h + 1/3) ≤ 2 / 2^53 ∧ (fv h + 1/3) - fv (Float64.add h 4599676419421066581) ≤ 2 / 2^53) ∧
    (FF (Float64.sub h 4599676419421066581) ∧ fv (Float64.sub h 4599676419421066581) - (fv h - 1/3) ≤ 2 / 2^53 ∧ (fv h - 1/3) - fv (Float64.sub h 4599676419421066581) ≤ 2 / 2^53) := by
  have a := Rd_add f k3i.1
  have b := Rd_sub f k3i.1
  rw [k3i.2] at a b
  obtain ⟨f1, p1, q1⟩ := a.err2 (by grind) (by grind)
  obtain ⟨f2, p2, q2⟩ := b.err2 (by grind) (by grind)
  exact ⟨⟨f1, by grind, by grind⟩, f2, by grind, by grind⟩

end Mine

end
section
open PySem PySem.Float64
namespace Mine

/-- rgb_to_hls -/
noncomputable def greyF (r g b : UInt64) : Bool := Float64.cmp (mn3 r g b) (mx3 r g b) == some .eq
noncomputable def toH (r g b : UInt64) : UInt64 := if greyF r g b = true then 0 else hueF (mx3 r g b) (mn3 r g b) r g b
noncomputable def toL (r g b : UInt64) : UInt64 := litF (mx3 r g b) (mn3 r g b)
noncomputable def toS (r g b : UInt64) : UInt64 := if greyF r g b = true then 0 else satF (mx3 r g b) (mn3 r g b)
noncomputable def HlsOk (r g b : UInt64) : Prop := greyF r g b = false → Float64.isZero (Float64.sub (mx3 r g b) (mn3 r g b)) = false ∧
  (leF (toL r g b) 4602678819172646912 = true → Float64.isZero (Float64.add (mx3 r g b) (mn3 r g b)) = false) ∧
  (leF (toL r g b) 4602678819172646912 = false → Float64.isZero (Float64.sub (Float64.sub 4611686018427387904 (mx3 r g b)) (mn3 r g b)) = false)
theorem grey_fv {r g b : UInt64} (fr : FF r) (fg : FF g) (fb : FF b) : greyF r g b = decide (fv (mn3 r g b) = fv (mx3 r g b)) := by
  unfold greyF; exact cmp_eq (mn3_fv fr fg fb).1 (mx3_fv fr fg fb).1
theorem nz {x : UInt64} (f : FF x) (h : 0 < fv x) : Float64.isZero x = false := by rw [isZero_fv f]; exact decide_eq_false (by grind)
theorem HlsOk.of {r g b : UInt64} (fr : FF r) (fg : FF g) (fb : FF b) (r0 : 0 ≤ fv r) (r1 : fv r ≤ 1) (g0 : 0 ≤ fv g) (g1 : fv g ≤ 1) (b0 : 0 ≤ fv b) (b1 : fv b ≤ 1) : HlsOk r g b := fun h => by
  rw [grey_fv fr fg fb] at h
  have h := of_decide_eq_false h
  obtain ⟨fM, M1, M2, M3, M4⟩ := mx3_fv fr fg fb
  obtain ⟨fN, N1, N2, N3, N4⟩ := mn3_fv fr fg fb
  generalize mx3 r g b = M at *
  generalize mn3 r g b = N at *
  have hlt : fv N < fv M := by grind
  obtain ⟨fP, P0, p1, q1⟩ := range_pos fM fN hlt (by grind)
  obtain ⟨⟨fS, S0, PS, S2⟩, fD, D0, PD, D2, d1, d2⟩ := sat_den fM fN (by grind) hlt (by grind)
  exact ⟨nz fP P0, fun _ => nz fS S0, fun _ => nz fD D0⟩

end Mine
namespace Mine
end Mine

end
section
open PySem PySem.W PySem.Calls PyProof.Rows PySem.SeqAt
namespace Mine
section
variable {prog : Program} {w : World} {B : Shared} {A : Around} {env : Env} {σ : Store}

/-- an `if` both of whose ways set one variable -/
theorem WX_if_set {t : Expr} {a b : List Stmt} {x : Str} {pos : Pos} {c : Bool} {va vb : UInt64} {Q : Out → Store → Prop} (ht : WT prog w B A env σ t (fun c' => c' = c))
    (ha : c = true → WS prog w B A env σ a (fun o σ' => o = .next ∧ σ' = σ.set x (.dat (.flt va)))) (hb : c = false → WS prog w B A env σ b (fun o σ' => o = .next ∧ σ' = σ.set x (.dat (.flt vb))))
    (q : Q .next (σ.set x (.dat (.flt (if c = true then va else vb))))) : WX prog w B A env σ (.If t a b pos) Q := by
  refine WX_if (WT.mono ht fun c' hc => ?_)
  subst hc
  cases c' with
  | true =>
    simp only [if_true] at q ⊢
    exact WS.mono (ha rfl) (fun o σ' ⟨e1, e2⟩ => by subst e1; subst e2; exact q)
  | false =>
    simp only [Bool.false_eq_true, if_false] at q ⊢
    exact WS.mono (hb rfl) (fun o σ' ⟨e1, e2⟩ => by subst e1; subst e2; exact q)

noncomputable def isFlt (c : UInt64) : Option (Option Value) → Bool
  | some (some (.float x t)) => x == c && t != 0
  | _ => false
/-- a global that is a float -/
theorem mg_flt {K : Frag} {h : Heap} {mg : Str → Option Value} {n : Str} {c : UInt64} (X : K.In h) (G : h.Ns mainGlobals mg) (e : isFlt c (nsIn K mainGlobals n) = true) : ∃ t, mg n = some (.float c t) ∧ t ≠ 0 := by
  cases hn : nsIn K mainGlobals n with
  | none => rw [hn] at e; cases e
  | some o =>
    cases o with
    | none => rw [hn] at e; cases e
    | some v =>
      rw [hn] at e
      cases v with
      | float x t =>
        simp only [isFlt, Bool.and_eq_true, beq_iff_eq, bne_iff_ne] at e
        obtain ⟨rfl, ht⟩ := e
        exact ⟨t, mg_of X G hn, ht⟩
      | _ => cases e
end
end Mine

end
section
open PySem PySem.W PySem.Calls PyProof.Rows PySem.SeqAt
namespace Mine
section
variable {prog : Program} {w : World} {B : Shared} {A : Around} {env : Env} {σ : Store}

/-- a triple of whole numbers within bounds -/
noncomputable def Trip (P : Int → Int → Int → Prop) (d : D) : Prop := ∃ a b c, d = .lst [.int a, .int b, .int c] ∧ P a b c
end
end Mine

end
section
open PySem PySem.W PySem.Calls PyProof.Rows PySem.SeqAt
namespace Mine
section
variable {prog : Program} {w : World} {B : Shared} {A : Around} {env : Env} {σ : Store}

end
end Mine

end
section
open PySem PySem.W PySem.Calls PyProof.Rows PySem.SeqAt
namespace Mine
section
variable {prog : Program} {w : World} {B : Shared} {A : Around} {env : Env} {σ : Store}

end
end Mine

end
section
open PySem PySem.W PySem.Calls PyProof.Rows PySem.SeqAt
namespace Mine
section
variable {prog : Program} {w : World} {B : Shared} {A : Around} {env : Env} {σ : Store}

/-- list(a tuple) -/
theorem WC_list_t {ds : List D} {Q : D → Prop} (hsz : ds.length ≤ 2 ^ 20) (q : Q (.lst ds)) : WC prog w B A (.type "list") [.tup ds] Q := fun X s vals g r => by
  obtain ⟨v, r₁, rfl, h1, h2⟩ := r
  cases h2
  obtain ⟨a, vs, rfl, ha, hl, hr⟩ := h1.tup_inv
  obtain ⟨n, ho⟩ := id hl
  refine call_list_seq a (.inr rfl) ho rfl rfl (fun h' c' hk hn => ⟨Kp.mk' hk, .lst ds, ?_, q⟩) (by simp [hr.length, sizeLine]; omega)
  exact rep_lst g.live.fresh ⟨c', hn⟩ (hr.keeps hk)

end
end Mine
namespace Mine
theorem fold_tup {es : List Expr} {k : Nat} {p : Pos} {env : Env} {x : Value} : foldedSetIterable (.Tuple es k p) env x = pure x := rfl
theorem fold_cal {f : Expr} {as : List Expr} {ks : List Keyword} {p : Pos} {env : Env} {x : Value} : foldedSetIterable (.Call f as ks p) env x = pure x := rfl
end Mine

end
section
open PySem PySem.Float64
namespace Mine

end Mine

end
section
open PySem PySem.Float64
namespace Mine

theorem dblRp {f : Rat} (h : Rp f) : Rp (2 * f) := by
  obtain ⟨m, k, hm, e⟩ := h
  exact ⟨m, k + 1, hm, by rw [Nat.pow_succ, Rat.natCast_mul]; show _ = (m : Rat) * (((2 ^ k : Nat) : Rat) * 2); grind⟩
theorem Rp_up : Rp (1 + 2 / 2^53) := Rp_grid (k := 52) (m := 2 ^ 52 + 1) (by decide) (by decide) (by decide +kernel)
theorem half_next {l : UInt64} (fl : FF l) (h : 1/2 < fv l) : 1/2 + 1/2^53 ≤ fv l := by
  -- l is a multiple of 2^-53 in (1/2, 1], or more
  by_cases z : 1/2 + 1/2^53 ≤ fv l
  · exact z
  · exfalso
    obtain ⟨m, k, hm, e⟩ := Rp_fv fl
    have hS : (S : Rat) = 2 ^ 53 * ((2 ^ 1021 : Nat) : Rat) := by
      unfold S; rw [pow_cast, pow_cast, ← pow_split]
    have p1 : (0 : Rat) < ((2 ^ 1021 : Nat) : Rat) := Rat.natCast_pos.mpr (Nat.two_pow_pos _)
    have hlo : ((2 ^ 52 * 2 ^ 1021 : Nat) : Rat) < (m : Rat) * (2 ^ k : Nat) := by
      rw [← e, hS, Rat.natCast_mul, pow_cast 52]
      have := Rat.mul_lt_mul_of_pos_right h (show (0 : Rat) < 2 ^ 53 * ((2 ^ 1021 : Nat) : Rat) by grind)
      grind
    have hhi : (m : Rat) * (2 ^ k : Nat) < (((2 ^ 52 + 1) * 2 ^ 1021 : Nat) : Rat) := by
      rw [← e, hS, Rat.natCast_mul, show ((2 ^ 52 + 1 : Nat) : Rat) = 2 ^ 52 + 1 from by decide +kernel]
      have := Rat.mul_lt_mul_of_pos_right (show fv l < 1/2 + 1/2^53 by grind) (show (0 : Rat) < 2 ^ 53 * ((2 ^ 1021 : Nat) : Rat) by grind)
      grind
    have m0 : 0 ≤ m := by
      rcases Int.lt_or_le m 0 with q | q
      · exfalso
        have : (m : Rat) ≤ 0 := by have := icast_le (show m ≤ 0 by omega); simpa using this
        have p2 : (0 : Rat) ≤ ((2 ^ k : Nat) : Rat) := Rat.natCast_nonneg
        have := Rat.mul_le_mul_of_nonneg_right this p2
        have n : (0 : Rat) ≤ ((2 ^ 52 * 2 ^ 1021 : Nat) : Rat) := Rat.natCast_nonneg
        grind
      · exact q
    obtain ⟨n, rfl⟩ : ∃ n : Nat, m = n := ⟨m.toNat, by omega⟩
    rw [Rat.intCast_natCast, ← Rat.natCast_mul] at hlo hhi
    have hlo := Rat.natCast_lt_natCast.mp hlo
    have hhi := Rat.natCast_lt_natCast.mp hhi
    have hn : n ≤ 2 ^ 53 := by omega
    have hk : 1020 ≤ k := by
      rcases Nat.lt_or_ge k 1020 with q | q
      · exfalso
        have : n * 2 ^ k ≤ 2 ^ 53 * 2 ^ 1020 := Nat.mul_le_mul hn (Nat.pow_le_pow_right (by decide) (by omega))
        have e2 : 2 ^ 53 * 2 ^ 1020 = 2 ^ 52 * 2 ^ 1021 := by rw [← Nat.pow_add, ← Nat.pow_add]
        rw [e2] at this
        exact absurd hlo (Nat.not_lt.mpr this)
      · exact q
    have hk' : k - 1020 + 1020 = k := by omega
    have e3 : 2 ^ k = 2 ^ (k - 1020) * 2 ^ 1020 := by rw [← Nat.pow_add, hk']
    have e4 : 2 ^ 52 * 2 ^ 1021 = 2 ^ 53 * 2 ^ 1020 := by rw [← Nat.pow_add, ← Nat.pow_add]
    have e5 : (2 ^ 52 + 1) * 2 ^ 1021 = (2 ^ 53 + 2) * 2 ^ 1020 := by
      have : (2 : Nat) ^ 1021 = 2 * 2 ^ 1020 := by rw [show 1021 = 1020 + 1 from rfl, Nat.pow_succ, Nat.mul_comm]
      rw [this, ← Nat.mul_assoc]
    rw [e3, e4, ← Nat.mul_assoc] at hlo
    rw [e3, e5, ← Nat.mul_assoc] at hhi
    have h1 := Nat.lt_of_mul_lt_mul_right hlo
    have h2 := Nat.lt_of_mul_lt_mul_right hhi
    -- n * 2^j = 2^53 + 1, n ≤ 2^53
    have h3 : n * 2 ^ (k - 1020) = 2 ^ 53 + 1 := by omega
    cases hj : k - 1020 with
    | zero => rw [hj] at h3; simp at h3; omega
    | succ j =>
      rw [hj, Nat.pow_succ, ← Nat.mul_assoc] at h3
      omega

/-- no component of hls_to_rgb is below 0 -/
theorem hlsC_nonneg {ha l s : UInt64} (fh : FF ha) (fl : FF l) (fs : FF s) (l0 : 0 ≤ fv l) (l1 : fv l ≤ 1) (s0 : 0 ≤ fv s) (s1 : fv s ≤ 1) : 0 ≤ fv (hlsC ha l s) := by
  unfold hlsC
  rw [cmp_eq fs fv0.1, fv0.2]
  by_cases z : fv s = 0
  · rw [if_pos (by simpa using z)]; exact l0
  rw [if_neg (by simpa using z)]
  obtain ⟨⟨f2, p2, q2⟩, f1, p1, q1⟩ := hlsM_err fl fs l0 l1 s0 s1
  have nb := nearE_bd l0 l1
  have w0 := Rat.mul_nonneg s0 nb.1
  have w1 := Rat.mul_le_mul_of_nonneg_right s1 nb.1
  have b := mulb (a := fv s) (d := 1) s1 (by grind) l0 l1
  have lr := Rp_fv fl
  have two : Rp 2 := by rw [← k2.2]; exact Rp_fv k2.1
  -- m2 <= 2l, and m2 >= l in the dark
  have key : fv (hlsM2 l s) ≤ 2 * fv l ∧ (fv l ≤ 1/2 → fv l ≤ fv (hlsM2 l s)) := by
    have f2' := f2
    unfold hlsM2 leF at f2' ⊢
    rw [cmp_le fl kh.1, kh.2] at f2' ⊢
    by_cases q : fv l ≤ 1/2
    · rw [if_pos (by simpa using q)] at f2' ⊢
      have r1 := Rd_add fv1.1 fs
      rw [fv1.2] at r1
      obtain ⟨fa, _⟩ := r1.err2 (by grind) (by grind)
      have a1 := r1.ge fa one_Rp (by grind)
      have a2 := r1.le fa two (by grind)
      generalize Float64.add 4607182418800017408 s = a at *
      have r2 := Rd_mul fl fa
      have m1 := Rat.mul_le_mul_of_nonneg_left a1 l0
      have m2 := Rat.mul_le_mul_of_nonneg_left a2 l0
      exact ⟨r2.le f2' (dblRp lr) (by grind), fun _ => r2.ge f2' lr (by grind)⟩
    · rw [if_neg (by simpa using q)] at f2' ⊢
      have hn := half_next fl (by grind)
      obtain ⟨g1, c1, c2⟩ := (Rd_add fl fs).err2 (by grind) (by grind)
      obtain ⟨g2, c3, c4⟩ := (Rd_mul fl fs).err1 (by grind) (by grind)
      have r3 := Rd_sub g1 g2
      have pr : 0 ≤ (1 - fv l) * (1 - fv s) := Rat.mul_nonneg (by grind) (by grind)
      have := r3.le f2' Rp_up (by grind)
      exact ⟨by grind, fun h => absurd h q⟩
  have d2 := Rd_mul k2.1 fl
  rw [k2.2] at d2
  obtain ⟨g2, _⟩ := d2.err2 (by grind) (by grind)
  have e2 := d2.exact g2 (dblRp lr)
  have m10 : 0 ≤ fv (hlsM1 l s) := by
    have r := Rd_sub g2 f2
    rw [e2] at r
    exact r.ge f1 Rp0 (by grind)
  have m12 : fv l ≤ 1/2 → fv (hlsM1 l s) ≤ fv (hlsM2 l s) := fun h => by
    have r := Rd_sub g2 f2
    rw [e2] at r
    exact r.le f1 (Rp_fv f2) (by have := key.2 h; grind)
  generalize hlsM2 l s = m2 at *
  generalize hlsM1 l s = m1 at *
  by_cases q : fv m1 ≤ fv m2
  · -- the ramp goes up
    obtain ⟨fh', h0, h1, _⟩ := mod1_spec fh
    unfold vF
    generalize mod1 ha = h at *
    have ramp : ∀ x : UInt64, FF x → 0 ≤ fv x → fv x ≤ 1/4 → 0 ≤ fv (Float64.add m1 (Float64.mul (Float64.mul (Float64.sub m2 m1) x) 4618441417868443648)) := fun x fx x0 x1 => by
      obtain ⟨a, _⟩ := (Rd_sub f2 f1).err2 (by grind) (by grind)
      have a0 := (Rd_sub f2 f1).ge a Rp0 (by grind)
      have a2 := (Rd_sub f2 f1).le a two (by grind)
      generalize Float64.sub m2 m1 = d at *
      have bb := mulb (a := fv d) (d := 2) a2 (by grind) x0 x1
      have n1 := Rat.mul_nonneg a0 x0
      obtain ⟨c, _⟩ := (Rd_mul a fx).err1 (by grind) (by grind)
      have c0 := (Rd_mul a fx).ge c Rp0 n1
      have c1 := (Rd_mul a fx).le c one_Rp (by grind)
      generalize Float64.mul d x = e at *
      have r6 := Rd_mul c k6.1
      rw [k6.2] at r6
      obtain ⟨g, g1, g2'⟩ := r6.err8 (by grind) (by grind)
      have g0 := r6.ge g Rp0 (by grind)
      generalize Float64.mul e 4618441417868443648 = t at *
      have r7 := Rd_add f1 g
      obtain ⟨k, _⟩ := r7.errp 4 (by rw [show (2 : Rat) ^ 4 = 16 by decide +kernel]; grind) (by rw [show (2 : Rat) ^ 4 = 16 by decide +kernel]; grind)
      exact r7.ge k Rp0 (by grind)
    rw [vT_eq fh']
    split
    · exact ramp h fh' h0 (by grind)
    · split
      · grind
      · split
        · have r := Rd_sub k23.1 fh'
          rw [k23.2] at r
          obtain ⟨g, g1, g2'⟩ := r.err1 (by grind) (by grind)
          exact ramp _ g (r.ge g Rp0 (by grind)) (by grind)
        · exact m10
  · -- then l is above a half, and all is near l
    have hl : ¬ fv l ≤ 1/2 := fun h => q (m12 h)
    obtain ⟨fv', p3, q3⟩ := vF_err (hue := ha) f1 f2 fh (by grind) (by grind) (by grind) (by grind) (by grind) (by grind)
    have cb := cvP_bd (fv ha)
    have m := mulb (a := fv m2 - fv m1) (d := 9/2^53) (x := cvP (fv ha)) (c := 1) (by grind) (by grind) cb.1 cb.2
    grind
end Mine

end
section
open PySem PySem.Float64
namespace Mine

/-- the three curves over a turn, by sixths -/
theorem sext (x : Rat) : ∃ (k : Int) (f : Rat), x = k + f ∧ 0 ≤ f ∧ f < 1 ∧
    ((f < 1/6 ∧ cvP (x + 1/3) = 1 ∧ cvP x = 6 * f ∧ cvP (x - 1/3) = 0) ∨
     (1/6 ≤ f ∧ f < 1/3 ∧ cvP (x + 1/3) = 2 - 6 * f ∧ cvP x = 1 ∧ cvP (x - 1/3) = 0) ∨
     (1/3 ≤ f ∧ f < 1/2 ∧ cvP (x + 1/3) = 0 ∧ cvP x = 1 ∧ cvP (x - 1/3) = 6 * f - 2) ∨
     (1/2 ≤ f ∧ f < 2/3 ∧ cvP (x + 1/3) = 0 ∧ cvP x = 4 - 6 * f ∧ cvP (x - 1/3) = 1) ∨
     (2/3 ≤ f ∧ f < 5/6 ∧ cvP (x + 1/3) = 6 * f - 4 ∧ cvP x = 0 ∧ cvP (x - 1/3) = 1) ∨
     (5/6 ≤ f ∧ cvP (x + 1/3) = 1 ∧ cvP x = 0 ∧ cvP (x - 1/3) = 6 - 6 * f)) := by
  have hb := frac_bd x
  refine ⟨x.floor, x - x.floor, by grind, hb.1, hb.2, ?_⟩
  generalize hf : x - x.floor = f at *
  generalize x.floor = k at *
  have hx : x = k + f := by grind
  have cG : cvP x = cv f := cvP_of hx hb.1 hb.2
  have cR1 : f < 2/3 → cvP (x + 1/3) = cv (f + 1/3) := fun h => cvP_of (k := k) (by grind) (by grind) (by grind)
  have cR2 : 2/3 ≤ f → cvP (x + 1/3) = cv (f - 2/3) := fun h => cvP_of (k := k + 1) (by rw [Rat.intCast_add, Rat.intCast_one]; grind) (by grind) (by grind)
  have cB1 : f < 1/3 → cvP (x - 1/3) = cv (f + 2/3) := fun h => cvP_of (k := k - 1) (by rw [Rat.intCast_sub, Rat.intCast_one]; grind) (by grind) (by grind)
  have cB2 : 1/3 ≤ f → cvP (x - 1/3) = cv (f - 1/3) := fun h => cvP_of (k := k) (by grind) (by grind) (by grind)
  by_cases h1 : f < 1/6
  · left
    rw [cG, cR1 (by grind), cB1 (by grind)]
    exact ⟨h1, by unfold cv; grind, by unfold cv; grind, by unfold cv; grind⟩
  right
  by_cases h2 : f < 1/3
  · left
    rw [cG, cR1 (by grind), cB1 (by grind)]
    exact ⟨by grind, h2, by unfold cv; grind, by unfold cv; grind, by unfold cv; grind⟩
  right
  by_cases h3 : f < 1/2
  · left
    rw [cG, cR1 (by grind), cB2 (by grind)]
    exact ⟨by grind, h3, by unfold cv; grind, by unfold cv; grind, by unfold cv; grind⟩
  right
  by_cases h4 : f < 2/3
  · left
    rw [cG, cR1 (by grind), cB2 (by grind)]
    exact ⟨by grind, h4, by unfold cv; grind, by unfold cv; grind, by unfold cv; grind⟩
  right
  by_cases h5 : f < 5/6
  · left
    rw [cG, cR2 (by grind), cB2 (by grind)]
    exact ⟨by grind, h5, by unfold cv; grind, by unfold cv; grind, by unfold cv; grind⟩
  right
  rw [cG, cR2 (by grind), cB2 (by grind)]
  exact ⟨by grind, by unfold cv; grind, by unfold cv; grind, by unfold cv; grind⟩

/-- one is at the top, one at the bottom -/
theorem sext_ends (x : Rat) : (cvP (x + 1/3) = 1 ∨ cvP x = 1 ∨ cvP (x - 1/3) = 1) ∧ (cvP (x + 1/3) = 0 ∨ cvP x = 0 ∨ cvP (x - 1/3) = 0) := by
  obtain ⟨k, f, h0, h1, h2, h⟩ := sext x
  rcases h with ⟨_, a, b, c⟩ | ⟨_, _, a, b, c⟩ | ⟨_, _, a, b, c⟩ | ⟨_, _, a, b, c⟩ | ⟨_, _, a, b, c⟩ | ⟨_, a, b, c⟩ <;> simp [a, b, c]

/-- near components, near hues -/
theorem hue_inv {x y ε : Rat} (hε : ε < 1/2) (a1 : cvP (x + 1/3) - cvP (y + 1/3) ≤ ε) (a2 : cvP (y + 1/3) - cvP (x + 1/3) ≤ ε) (b1 : cvP x - cvP y ≤ ε) (b2 : cvP y - cvP x ≤ ε) (c1 : cvP (x - 1/3) - cvP (y - 1/3) ≤ ε) (c2 : cvP (y - 1/3) - cvP (x - 1/3) ≤ ε) :
    ∃ k : Int, x - y - k ≤ ε / 3 ∧ -(ε / 3) ≤ x - y - k := by
  obtain ⟨k, f, hx, f0, f1, hf⟩ := sext x
  obtain ⟨j, g, hy, g0, g1, hg⟩ := sext y
  generalize cvP (x + 1/3) = A at *
  generalize cvP x = B at *
  generalize cvP (x - 1/3) = C at *
  generalize cvP (y + 1/3) = A' at *
  generalize cvP y = B' at *
  generalize cvP (y - 1/3) = C' at *
  have key : (f - g ≤ ε / 3 ∧ -(ε / 3) ≤ f - g) ∨ (f - g - 1 ≤ ε / 3 ∧ -(ε / 3) ≤ f - g - 1) ∨ (f - g + 1 ≤ ε / 3 ∧ -(ε / 3) ≤ f - g + 1) := by
    clear hx hy
    rcases hf with ⟨h1, a, b, c⟩ | ⟨h0, h1, a, b, c⟩ | ⟨h0, h1, a, b, c⟩ | ⟨h0, h1, a, b, c⟩ | ⟨h0, h1, a, b, c⟩ | ⟨h0, a, b, c⟩ <;> subst a b c <;>
    rcases hg with ⟨h1', a, b, c⟩ | ⟨h0', h1', a, b, c⟩ | ⟨h0', h1', a, b, c⟩ | ⟨h0', h1', a, b, c⟩ | ⟨h0', h1', a, b, c⟩ | ⟨h0', a, b, c⟩ <;> subst a b c <;>
    first
    | (exfalso; grind; done)
    | (left; constructor <;> grind; done)
    | (right; left; constructor <;> grind; done)
    | (right; right; constructor <;> grind; done)
  rcases key with ⟨p, q⟩ | ⟨p, q⟩ | ⟨p, q⟩
  · exact ⟨k - j, by rw [Rat.intCast_sub]; grind, by rw [Rat.intCast_sub]; grind⟩
  · exact ⟨k - j + 1, by rw [Rat.intCast_add, Rat.intCast_sub, Rat.intCast_one]; grind, by rw [Rat.intCast_add, Rat.intCast_sub, Rat.intCast_one]; grind⟩
  · exact ⟨k - j - 1, by rw [Rat.intCast_sub, Rat.intCast_sub, Rat.intCast_one]; grind, by rw [Rat.intCast_sub, Rat.intCast_sub, Rat.intCast_one]; grind⟩

/-- the hue of a colour that is near a known one -/
theorem hue_near {M N r g b : UInt64} {x0 N0 D0 e ε : Rat} (fM : FF M) (fN : FF N) (fr : FF r) (fg : FF g) (fb : FF b) (r1 : fv N ≤ fv r) (r2 : fv r ≤ fv M) (g1 : fv N ≤ fv g) (g2 : fv g ≤ fv M) (b1 : fv N ≤ fv b) (b2 : fv b ≤ fv M)
    (hM : fv M = fv r ∨ fv M = fv g ∨ fv M = fv b) (hN : fv N = fv r ∨ fv N = fv g ∨ fv N = fv b) (h : fv N < fv M) (hb : fv M - fv N ≤ 2) (hD : 0 < D0) (he : 4 * e ≤ ε * D0) (hε : ε < 1/2)
    (er1 : fv r - (N0 + D0 * cvP (x0 + 1/3)) ≤ e) (er2 : (N0 + D0 * cvP (x0 + 1/3)) - fv r ≤ e) (eg1 : fv g - (N0 + D0 * cvP x0) ≤ e) (eg2 : (N0 + D0 * cvP x0) - fv g ≤ e) (eb1 : fv b - (N0 + D0 * cvP (x0 - 1/3)) ≤ e) (eb2 : (N0 + D0 * cvP (x0 - 1/3)) - fv b ≤ e) :
    FF (hueF M N r g b) ∧ 0 ≤ fv (hueF M N r g b) ∧ fv (hueF M N r g b) ≤ 1 ∧ ∃ k : Int, fv (hueF M N r g b) - x0 - k ≤ ε / 3 + 4 / 2^53 ∧ -(ε / 3 + 4 / 2^53) ≤ fv (hueF M N r g b) - x0 - k := by
  obtain ⟨x, fh, p1, q1, h0, h1, er, eg, eb⟩ := hueF_err fM fN fr fg fb r1 r2 g1 g2 b1 b2 hM hN h hb
  refine ⟨fh, h0, h1, ?_⟩
  generalize hueF M N r g b = H at *
  have en := sext_ends x0
  have bA := cvP_bd (x0 + 1/3)
  have bB := cvP_bd x0
  have bC := cvP_bd (x0 - 1/3)
  have bA' := cvP_bd (x + 1/3)
  have bB' := cvP_bd x
  have bC' := cvP_bd (x - 1/3)
  -- the ends
  have mul01 : ∀ c : Rat, 0 ≤ c → c ≤ 1 → 0 ≤ D0 * c ∧ D0 * c ≤ D0 := fun c c0 c1 => ⟨Rat.mul_nonneg (Rat.le_of_lt hD) c0, by have := Rat.mul_le_mul_of_nonneg_left c1 (Rat.le_of_lt hD); grind⟩
  have mA := mul01 _ bA.1 bA.2
  have mB := mul01 _ bB.1 bB.2
  have mC := mul01 _ bC.1 bC.2
  have eM : fv M - (N0 + D0) ≤ e ∧ (N0 + D0) - fv M ≤ e := by
    refine ⟨by rcases hM with z | z | z <;> rw [z] <;> grind, ?_⟩
    rcases en.1 with z | z | z
    · rw [z] at er2; grind
    · rw [z] at eg2; grind
    · rw [z] at eb2; grind
  have eN : fv N - N0 ≤ e ∧ N0 - fv N ≤ e := by
    refine ⟨?_, by rcases hN with z | z | z <;> rw [z] <;> grind⟩
    rcases en.2 with z | z | z
    · rw [z] at er1; grind
    · rw [z] at eg1; grind
    · rw [z] at eb1; grind
  have he0 : 0 ≤ e := by grind
  have key : ∀ c c0 v : Rat, 0 ≤ c → c ≤ 1 → v = fv N + (fv M - fv N) * c → v - (N0 + D0 * c0) ≤ e → (N0 + D0 * c0) - v ≤ e → c - c0 ≤ ε ∧ c0 - c ≤ ε := fun c c0 v k0 k1 ev d1 d2 => by
    have m := mulc (a := fv M - fv N) (b := D0) (x := c) (c := 1) (e := 2 * e) (by grind) (by grind) k0 k1 (by grind)
    exact ⟨Rat.le_of_mul_le_mul_right (c := D0) (by grind) hD, Rat.le_of_mul_le_mul_right (c := D0) (by grind) hD⟩
  have kA := key _ _ _ bA'.1 bA'.2 er er1 er2
  have kB := key _ _ _ bB'.1 bB'.2 eg eg1 eg2
  have kC := key _ _ _ bC'.1 bC'.2 eb eb1 eb2
  obtain ⟨k, k1, k2⟩ := hue_inv hε kA.1 kA.2 kB.1 kB.2 kC.1 kC.2
  exact ⟨k, by grind, by grind⟩
end Mine

end
section
open PySem PySem.Float64
namespace Mine

end Mine

end
section
open PySem PySem.Float64
namespace Mine

theorem nearE_lip {a b e : Rat} (h1 : a - b ≤ e) (h2 : b - a ≤ e) : nearE a - nearE b ≤ e ∧ nearE b - nearE a ≤ e := by
  unfold nearE; constructor <;> grind
theorem ipos {a : Int} (h : 0 < a) : (0 : Rat) < a := Rat.intCast_pos.mpr h
theorem inn {a : Int} (h : 0 ≤ a) : (0 : Rat) ≤ a := by have := icast_le h; simpa using this

noncomputable def liftI (turn y z : Int) : Int := max (-turn) (min turn (3 * turn - 2 * min (y % (6 * turn)) (z % (6 * turn))))
theorem lift_eq {turn y z : Int} (ht : 0 < turn) (hz : z = -y) : (turn : Rat) * (2 * cvP ((y : Rat) / (6 * turn) + 1/3) - 1) = (liftI turn y z : Int) := by
  have tp := ipos ht
  have hne : (6 * (turn : Rat)) ≠ 0 := by grind
  have hm0 := Int.emod_nonneg y (show 6 * turn ≠ 0 by omega)
  have hm1 := Int.emod_lt_of_pos y (show 0 < 6 * turn by omega)
  have hdm := Int.mul_ediv_add_emod y (6 * turn)
  have hz' : z % (6 * turn) = if y % (6 * turn) = 0 then 0 else 6 * turn - y % (6 * turn) := by
    subst hz
    split
    · rename_i h; exact Int.emod_eq_zero_of_dvd (Int.dvd_neg.mpr (Int.dvd_of_emod_eq_zero h))
    · rename_i h
      have e : -y = (6 * turn - y % (6 * turn)) + 6 * turn * (-(y / (6 * turn)) - 1) := by
        generalize y % (6 * turn) = m at *
        generalize y / (6 * turn) = k at *
        rw [Int.mul_sub, Int.mul_neg]; omega
      rw [e, Int.add_mul_emod_self_left]
      exact Int.emod_eq_of_lt (by omega) (by omega)
  unfold liftI
  rw [hz']
  generalize y % (6 * turn) = m at *
  generalize y / (6 * turn) = k at *
  have hy : (y : Rat) / (6 * turn) = k + (m : Rat) / (6 * turn) := by
    have : (y : Rat) = 6 * turn * k + m := by
      rw [← hdm, Rat.intCast_add, Rat.intCast_mul, Rat.intCast_mul]; rfl
    rw [this]; grind
  have em : (m : Rat) / (6 * turn) * (6 * turn) = m := Rat.div_mul_cancel hne
  have hmt : (m : Rat) = (m : Rat) / (6 * turn) * 6 * turn := by grind
  generalize hf : (m : Rat) / (6 * turn) = f at *
  rw [hy]
  -- comparison of m with multiples of turn by f
  have cmpL : ∀ c : Int, m ≤ c * turn → f ≤ (c : Rat) / 6 := fun c h => by
    have := icast_le h
    rw [Rat.intCast_mul] at this
    exact Rat.le_of_mul_le_mul_right (c := (6 * turn : Rat)) (by grind) (by grind)
  have cmpG : ∀ c : Int, c * turn ≤ m → (c : Rat) / 6 ≤ f := fun c h => by
    have := icast_le h
    rw [Rat.intCast_mul] at this
    exact Rat.le_of_mul_le_mul_right (c := (6 * turn : Rat)) (by grind) (by grind)
  have f0 : 0 ≤ f := by have := cmpG 0 (by omega); simpa [Rat.div_def] using this
  by_cases h1 : m ≤ turn
  · have a := cmpL 1 (by omega)
    have e : cvP (k + f + 1/3) = 1 := by
      rw [cvP_of (k := k) (f := f + 1/3) (by grind) (by grind) (by rw [Rat.intCast_one] at a; grind)]
      rw [Rat.intCast_one] at a
      unfold cv; grind
    rw [e, show max (-turn) (min turn (3 * turn - 2 * min m (if m = 0 then 0 else 6 * turn - m))) = turn by split <;> omega]
    grind
  by_cases h2 : m ≤ 2 * turn
  · have a := cmpL 2 (by omega)
    have b := cmpG 1 (by omega)
    rw [show ((2 : Int) : Rat) = 2 from rfl] at a
    rw [Rat.intCast_one] at b
    have e : cvP (k + f + 1/3) = 6 * (1/3 - f) := by
      rw [cvP_of (k := k) (f := f + 1/3) (by grind) (by grind) (by grind)]
      unfold cv; grind
    rw [e, show max (-turn) (min turn (3 * turn - 2 * min m (if m = 0 then 0 else 6 * turn - m))) = 3 * turn - 2 * m by split <;> omega, Rat.intCast_sub, Rat.intCast_mul, Rat.intCast_mul, hmt]
    show _ = (3 : Rat) * turn - 2 * _
    grind
  by_cases h3 : m ≤ 4 * turn
  · have a := cmpL 4 (by omega)
    have b := cmpG 2 (by omega)
    rw [show ((4 : Int) : Rat) = 4 from rfl] at a
    rw [show ((2 : Int) : Rat) = 2 from rfl] at b
    have e : cvP (k + f + 1/3) = 0 := by
      by_cases q : f + 1/3 < 1
      · rw [cvP_of (k := k) (f := f + 1/3) (by grind) (by grind) q]
        unfold cv; grind
      · rw [cvP_of (k := k + 1) (f := f - 2/3) (by rw [Rat.intCast_add, Rat.intCast_one]; grind) (by grind) (by grind)]
        unfold cv; grind
    rw [e, show max (-turn) (min turn (3 * turn - 2 * min m (if m = 0 then 0 else 6 * turn - m))) = -turn by split <;> omega, Rat.intCast_neg]
    grind
  by_cases h4 : m ≤ 5 * turn
  · have a := cmpL 5 (by omega)
    have b := cmpG 4 (by omega)
    rw [show ((5 : Int) : Rat) = 5 from rfl] at a
    rw [show ((4 : Int) : Rat) = 4 from rfl] at b
    have e : cvP (k + f + 1/3) = 6 * (f - 2/3) := by
      rw [cvP_of (k := k + 1) (f := f - 2/3) (by rw [Rat.intCast_add, Rat.intCast_one]; grind) (by grind) (by grind)]
      unfold cv; grind
    rw [e, show max (-turn) (min turn (3 * turn - 2 * min m (if m = 0 then 0 else 6 * turn - m))) = 2 * m - 9 * turn by split <;> omega, Rat.intCast_sub, Rat.intCast_mul, Rat.intCast_mul, hmt]
    show _ = (2 : Rat) * _ - 9 * _
    grind
  · have b := cmpG 5 (by omega)
    have a := cmpL 6 (by omega)
    rw [show ((5 : Int) : Rat) = 5 from rfl] at b
    rw [show ((6 : Int) : Rat) = 6 from rfl] at a
    have e : cvP (k + f + 1/3) = 1 := by
      rw [cvP_of (k := k + 1) (f := f - 2/3) (by rw [Rat.intCast_add, Rat.intCast_one]; grind) (by grind) (by grind)]
      unfold cv; grind
    rw [e, show max (-turn) (min turn (3 * turn - 2 * min m (if m = 0 then 0 else 6 * turn - m))) = turn by split <;> omega]
    grind

/-- a hue of up to 64 turns -/
theorem hue_frac {hue turn : Int} (ht : 0 < turn) (h1 : -(64 * turn) ≤ hue) (h2 : hue ≤ 64 * turn) :
    FF (divI hue turn) ∧ (fv (divI hue turn) - (hue : Rat) / turn ≤ 32 / 2^53 ∧ (hue : Rat) / turn - fv (divI hue turn) ≤ 32 / 2^53) ∧
    (FF (Float64.add (divI hue turn) 4599676419421066581) ∧ fv (Float64.add (divI hue turn) 4599676419421066581) - ((hue : Rat) / turn + 1/3) ≤ 98 / 2^53 ∧ ((hue : Rat) / turn + 1/3) - fv (Float64.add (divI hue turn) 4599676419421066581) ≤ 98 / 2^53) ∧
    (FF (Float64.sub (divI hue turn) 4599676419421066581) ∧ fv (Float64.sub (divI hue turn) 4599676419421066581) - ((hue : Rat) / turn - 1/3) ≤ 98 / 2^53 ∧ ((hue : Rat) / turn - 1/3) - fv (Float64.sub (divI hue turn) 4599676419421066581) ≤ 98 / 2^53) := by
  have tp := ipos ht
  have e6 : (2 : Rat) ^ 6 = 64 := by decide +kernel
  have e7 : (2 : Rat) ^ 7 = 128 := by decide +kernel
  have hne : (turn : Rat) ≠ 0 := by grind
  have eq : (hue : Rat) / turn * turn = hue := Rat.div_mul_cancel hne
  have r := Rd_frac (a := hue) (b := turn) (by omega)
  generalize (hue : Rat) / turn = q at *
  have i1 := icast_le h1
  have i2 := icast_le h2
  rw [Rat.intCast_neg, Rat.intCast_mul] at i1
  rw [Rat.intCast_mul] at i2
  have b1 : -64 ≤ q := Rat.le_of_mul_le_mul_right (c := (turn : Rat)) (by rw [eq]; show -(64 : Rat) * _ ≤ _; change -((64 : Rat) * _) ≤ _ at i1; grind) tp
  have b2 : q ≤ 64 := Rat.le_of_mul_le_mul_right (c := (turn : Rat)) (by rw [eq]; change _ ≤ (64 : Rat) * _ at i2; grind) tp
  obtain ⟨f, p1, p2⟩ := r.errp 6 (by rw [e6]; exact b1) (by rw [e6]; exact b2)
  rw [e6] at p1 p2
  have a := Rd_add f k3i.1
  have b := Rd_sub f k3i.1
  rw [k3i.2] at a b
  obtain ⟨f1, p3, p4⟩ := a.errp 7 (by rw [e7]; grind) (by rw [e7]; grind)
  obtain ⟨f2, p5, p6⟩ := b.errp 7 (by rw [e7]; grind) (by rw [e7]; grind)
  rw [e7] at p3 p4 p5 p6
  exact ⟨f, ⟨by grind, by grind⟩, ⟨f1, by grind, by grind⟩, f2, by grind, by grind⟩

/-- hls_to_rgb of fractions, by whole numbers -/
theorem hls_val {top full light part : Int} {ha : UInt64} {x : Rat} (ht : 1 ≤ top) (hf : 1 ≤ full) (hl : 0 ≤ light ∧ light ≤ top) (hp : 0 ≤ part ∧ part ≤ full) (fh : FF ha) (e1 : fv ha - x ≤ 98 / 2^53) (e2 : x - fv ha ≤ 98 / 2^53) :
    ∃ ρl ρs : Rat, ρl * top = light ∧ ρs * full = part ∧ 0 ≤ ρl ∧ ρl ≤ 1 ∧ 0 ≤ ρs ∧ ρs ≤ 1 ∧ FF (hlsC ha (divI light top) (divI part full)) ∧
      fv (hlsC ha (divI light top) (divI part full)) - (ρl + ρs * nearE ρl * (2 * cvP x - 1)) ≤ 620 / 2^53 ∧ (ρl + ρs * nearE ρl * (2 * cvP x - 1)) - fv (hlsC ha (divI light top) (divI part full)) ≤ 620 / 2^53 := by
  obtain ⟨ρl, l1, l2, l3, fl, l4, l5, l6, l7⟩ := frac_err ht hl.1 hl.2
  obtain ⟨ρs, s1, s2, s3, fs, s4, s5, s6, s7⟩ := frac_err hf hp.1 hp.2
  obtain ⟨fC, c1, c2⟩ := hlsC_err (E := 98 / 2^53) fh fl fs l6 l7 s6 s7 e1 e2
  refine ⟨ρl, ρs, l1, s1, l2, l3, s2, s3, fC, ?_⟩
  have nb := nearE_bd l6 l7
  have nb' := nearE_bd l2 l3
  have nl := nearE_lip l4 l5
  have cb := cvP_bd x
  generalize hlsC ha (divI light top) (divI part full) = C at *
  generalize divI light top = l at *
  generalize divI part full = s at *
  generalize nearE (fv l) = n at *
  generalize nearE ρl = n0 at *
  generalize cvP x = c at *
  have a := mulc (a := n) (b := n0) (x := fv s) (c := 1) nl.1 nl.2 s6 s7 (by decide +kernel)
  have b := mulc (a := fv s) (b := ρs) (x := n0) (c := 1) s4 s5 nb'.1 (by grind) (by decide +kernel)
  have d : (fv s * n) * (2 * c - 1) - (ρs * n0) * (2 * c - 1) ≤ 2 / 2^53 ∧ (ρs * n0) * (2 * c - 1) - (fv s * n) * (2 * c - 1) ≤ 2 / 2^53 := by
    have q1 := mulc (a := fv s * n) (b := ρs * n0) (x := c) (c := 1) (e := 1/2^53) (by grind) (by grind) cb.1 cb.2 (by decide +kernel)
    have q2 := mulc (a := fv s * n) (b := ρs * n0) (x := 1 - c) (c := 1) (e := 1/2^53) (by grind) (by grind) (by grind) (by grind) (by decide +kernel)
    exact ⟨by grind, by grind⟩
  exact ⟨by grind, by grind⟩

end Mine

end
section
open PySem PySem.Float64
namespace Mine

theorem frac_zero {full : Int} (hf : 1 ≤ full) : FF (divI 0 full) ∧ fv (divI 0 full) = 0 := by
  obtain ⟨ρ, e0, p0, p1, f, e1, e2, q0, q1⟩ := frac_err hf (a := 0) (by omega) (by omega)
  have r := Rd_frac (a := 0) (b := full) (by omega)
  have : ((0 : Int) : Rat) / full = 0 := by rw [Rat.intCast_zero]; simp [Rat.div_def]
  rw [this] at r
  exact ⟨f, r.exact f Rp0⟩
theorem hlsC_zero {ha l : UInt64} {full : Int} (hf : 1 ≤ full) : hlsC ha l (divI 0 full) = l := by
  obtain ⟨f, e⟩ := frac_zero hf
  unfold hlsC
  rw [cmp_eq f fv0.1, e, fv0.2]; simp
end Mine

end
section
open PySem PySem.Float64
namespace Mine

/-- black stays black -/
theorem ramp_zero {m1 m2 x : UInt64} (f1 : FF m1) (f2 : FF m2) (fx : FF x) (e1 : fv m1 = 0) (e2 : fv m2 = 0) : fv (Float64.add m1 (Float64.mul (Float64.mul (Float64.sub m2 m1) x) 4618441417868443648)) = 0 := by
  have r1 := Rd_sub f2 f1
  rw [e1, e2, show (0 : Rat) - 0 = 0 by grind] at r1
  obtain ⟨g1, _⟩ := r1.err1 (by decide) (by decide)
  have z1 := r1.exact g1 Rp0
  have r2 := Rd_mul g1 fx
  rw [z1, show (0 : Rat) * fv x = 0 by grind] at r2
  obtain ⟨g2, _⟩ := r2.err1 (by decide) (by decide)
  have z2 := r2.exact g2 Rp0
  have r3 := Rd_mul g2 k6.1
  rw [z2, show (0 : Rat) * fv 4618441417868443648 = 0 by grind] at r3
  obtain ⟨g3, _⟩ := r3.err1 (by decide) (by decide)
  have z3 := r3.exact g3 Rp0
  have r4 := Rd_add f1 g3
  rw [z3, e1, show (0 : Rat) + 0 = 0 by grind] at r4
  obtain ⟨g4, _⟩ := r4.err1 (by decide) (by decide)
  exact r4.exact g4 Rp0
theorem hlsC_black {ha l s : UInt64} (fh : FF ha) (fl : FF l) (fs : FF s) (l0 : fv l = 0) (s0 : 0 ≤ fv s) (s1 : fv s ≤ 1) : fv (hlsC ha l s) = 0 := by
  unfold hlsC
  split
  · exact l0
  have m2 : FF (hlsM2 l s) ∧ fv (hlsM2 l s) = 0 := by
    unfold hlsM2 leF
    rw [cmp_le fl kh.1, kh.2, l0, if_pos (by simp; decide +kernel)]
    have r := Rd_add fv1.1 fs
    rw [fv1.2] at r
    obtain ⟨f1, _⟩ := r.err2 (by grind) (by grind)
    have r2 := Rd_mul fl f1
    rw [l0, show ∀ q : Rat, 0 * q = 0 from fun q => by grind] at r2
    obtain ⟨f2, _⟩ := r2.err1 (by decide) (by decide)
    exact ⟨f2, r2.exact f2 Rp0⟩
  have m1 : FF (hlsM1 l s) ∧ fv (hlsM1 l s) = 0 := by
    unfold hlsM1
    have r := Rd_mul k2.1 fl
    rw [l0, show ∀ q : Rat, q * 0 = 0 from fun q => by grind] at r
    obtain ⟨f1, _⟩ := r.err1 (by decide) (by decide)
    have e1 := r.exact f1 Rp0
    have r2 := Rd_sub f1 m2.1
    rw [e1, m2.2, show (0 : Rat) - 0 = 0 by grind] at r2
    obtain ⟨f2, _⟩ := r2.err1 (by decide) (by decide)
    exact ⟨f2, r2.exact f2 Rp0⟩
  obtain ⟨fm, h0, h1, _⟩ := mod1_spec fh
  unfold vF
  rw [vT_eq fm]
  split
  · exact ramp_zero m1.1 m2.1 fm m1.2 m2.2
  · split
    · exact m2.2
    · split
      · have r := Rd_sub k23.1 fm
        rw [k23.2] at r
        obtain ⟨g, _⟩ := r.err1 (by grind) (by grind)
        exact ramp_zero m1.1 m2.1 g m1.2 m2.2
      · exact m1.2

end Mine

end
section
open PySem PySem.Float64
namespace Mine

theorem cancelR {a b t : Rat} (ht : 0 < t) (h : a * t = b * t) : a = b := by
  have h1 := Rat.le_of_mul_le_mul_right (a := a) (b := b) (c := t) (by grind) ht
  have h2 := Rat.le_of_mul_le_mul_right (a := b) (b := a) (c := t) (by grind) ht
  grind
theorem ends_near {M N r g b : UInt64} {x0 N0 D0 e : Rat} (r1 : fv N ≤ fv r) (r2 : fv r ≤ fv M) (g1 : fv N ≤ fv g) (g2 : fv g ≤ fv M) (b1 : fv N ≤ fv b) (b2 : fv b ≤ fv M)
    (hM : fv M = fv r ∨ fv M = fv g ∨ fv M = fv b) (hN : fv N = fv r ∨ fv N = fv g ∨ fv N = fv b) (hD : 0 ≤ D0)
    (er1 : fv r - (N0 + D0 * cvP (x0 + 1/3)) ≤ e) (er2 : (N0 + D0 * cvP (x0 + 1/3)) - fv r ≤ e) (eg1 : fv g - (N0 + D0 * cvP x0) ≤ e) (eg2 : (N0 + D0 * cvP x0) - fv g ≤ e) (eb1 : fv b - (N0 + D0 * cvP (x0 - 1/3)) ≤ e) (eb2 : (N0 + D0 * cvP (x0 - 1/3)) - fv b ≤ e) :
    (fv M - (N0 + D0) ≤ e ∧ (N0 + D0) - fv M ≤ e) ∧ (fv N - N0 ≤ e ∧ N0 - fv N ≤ e) := by
  have en := sext_ends x0
  have bA := cvP_bd (x0 + 1/3)
  have bB := cvP_bd x0
  have bC := cvP_bd (x0 - 1/3)
  have mul01 : ∀ c : Rat, 0 ≤ c → c ≤ 1 → 0 ≤ D0 * c ∧ D0 * c ≤ D0 := fun c c0 c1 => ⟨Rat.mul_nonneg hD c0, by have := Rat.mul_le_mul_of_nonneg_left c1 hD; grind⟩
  have mA := mul01 _ bA.1 bA.2
  have mB := mul01 _ bB.1 bB.2
  have mC := mul01 _ bC.1 bC.2
  refine ⟨⟨by rcases hM with z | z | z <;> rw [z] <;> grind, ?_⟩, ?_, by rcases hN with z | z | z <;> rw [z] <;> grind⟩
  · rcases en.1 with z | z | z
    · rw [z] at er2; grind
    · rw [z] at eg2; grind
    · rw [z] at eb2; grind
  · rcases en.2 with z | z | z
    · rw [z] at er1; grind
    · rw [z] at eg1; grind
    · rw [z] at eb1; grind

theorem hls_val' {top full light part : Int} {ha : UInt64} {x ρl ρs : Rat} (ht : 1 ≤ top) (hf : 1 ≤ full) (hl : 0 ≤ light ∧ light ≤ top) (hp : 0 ≤ part ∧ part ≤ full) (el : ρl * top = light) (es : ρs * full = part) (fh : FF ha) (e1 : fv ha - x ≤ 98 / 2^53) (e2 : x - fv ha ≤ 98 / 2^53) :
    FF (hlsC ha (divI light top) (divI part full)) ∧
      fv (hlsC ha (divI light top) (divI part full)) - ((ρl - ρs * nearE ρl) + 2 * (ρs * nearE ρl) * cvP x) ≤ 620 / 2^53 ∧ ((ρl - ρs * nearE ρl) + 2 * (ρs * nearE ρl) * cvP x) - fv (hlsC ha (divI light top) (divI part full)) ≤ 620 / 2^53 := by
  obtain ⟨ρl', ρs', l1, s1, l2, l3, s2, s3, f, c1, c2⟩ := hls_val ht hf hl hp fh e1 e2
  have tp := ipos (show 0 < top by omega)
  have fp := ipos (show 0 < full by omega)
  have q1 : ρl' = ρl := by
    exact cancelR tp (by rw [l1, el])
  have q2 : ρs' = ρs := by
    exact cancelR fp (by rw [s1, es])
  subst q1 q2
  generalize nearE ρl' = n at *
  generalize cvP x = c at *
  exact ⟨f, by grind, by grind⟩

end Mine

end
section
open PySem PySem.Float64
namespace Mine

theorem Gd_one {k : Nat} : Gd k 1 := ⟨(2 ^ k : Nat), by rw [Rat.intCast_natCast, pow_cast]; grind⟩
/-- x % 1.0 of what lies within a turn of it -/
theorem mod1_in {x : UInt64} (f : FF x) (h0 : 0 ≤ fv x) (h1 : fv x < 1) : fv (mod1 x) = fv x := by
  obtain ⟨_, _, _, k, g, e, g0, g1, hh⟩ := mod1_spec f
  have : k = 0 := by
    have a : (k : Rat) < ((1 : Int) : Rat) := by rw [Rat.intCast_one]; grind
    have b : ((-1 : Int) : Rat) < (k : Rat) := by rw [Rat.intCast_neg, Rat.intCast_one]; grind
    have a := Rat.intCast_lt_intCast.mp a
    have b := Rat.intCast_lt_intCast.mp b
    omega
  subst this
  rw [Rat.intCast_zero] at e
  rcases hh with z | z <;> grind
theorem mod1_up {x : UInt64} (f : FF x) (h0 : 1 ≤ fv x) (h1 : fv x < 2) : fv (mod1 x) = fv x - 1 := by
  obtain ⟨_, _, _, k, g, e, g0, g1, hh⟩ := mod1_spec f
  have : k = 1 := by
    have a : (k : Rat) < ((2 : Int) : Rat) := by rw [show ((2 : Int) : Rat) = 2 from rfl]; grind
    have b : ((0 : Int) : Rat) < (k : Rat) := by rw [Rat.intCast_zero]; grind
    have a := Rat.intCast_lt_intCast.mp a
    have b := Rat.intCast_lt_intCast.mp b
    omega
  subst this
  rw [Rat.intCast_one] at e
  rcases hh with z | z <;> grind
theorem mod1_dn {x : UInt64} (f : FF x) (h0 : -1 ≤ fv x) (h1 : fv x < 0) : fv (mod1 x) - (fv x + 1) ≤ 1/2^54 ∧ (fv x + 1) - fv (mod1 x) ≤ 1/2^54 := by
  obtain ⟨fm, _, _, k, g, e, g0, g1, hh⟩ := mod1_spec f
  have : k = -1 := by
    have a : (k : Rat) < ((0 : Int) : Rat) := by rw [Rat.intCast_zero]; grind
    have b : ((-2 : Int) : Rat) < (k : Rat) := by rw [show ((-2 : Int) : Rat) = -2 from rfl]; grind
    have a := Rat.intCast_lt_intCast.mp a
    have b := Rat.intCast_lt_intCast.mp b
    omega
  subst this
  rw [Rat.intCast_neg, Rat.intCast_one] at e
  rcases hh with z | ⟨_, z⟩
  · exact ⟨by grind, by grind⟩
  · have := z.err1 (by grind) (by grind)
    exact ⟨by grind, by grind⟩
/-- -1/3 % 1.0 lies above two thirds -/
theorem third_back : fv (mod1 (Float64.sub 0 4599676419421066581)) = 6004799503160662 / 2^53 := by
  have e : mod1 (Float64.sub 0 4599676419421066581) = 4604180019048437078 := by decide +kernel
  rw [e]
  have := fv_const (x := 4604180019048437078) (m := 6004799503160662) (j := 1021) (k := 53) (by decide +kernel) (by decide)
  simpa using this
end Mine

end
section
open PySem PySem.Float64
namespace Mine

theorem vT_m2 {m1 m2 h : UInt64} (f : FF h) (h0 : 6004799503160661 / 2^55 ≤ fv h) (h1 : fv h < 1/2) : vT m1 m2 h = m2 := by
  rw [vT_eq f, if_neg (by grind), if_pos h1]
theorem vT_m1 {m1 m2 h : UInt64} (f : FF h) (h0 : 6004799503160661 / 2^53 ≤ fv h) : vT m1 m2 h = m1 := by
  rw [vT_eq f, if_neg (by grind), if_neg (by grind), if_neg (by grind)]
end Mine

end
section
open PySem PySem.Float64
namespace Mine

/-- no hue at red -/
theorem hue_red {M N r g b : UInt64} (fM : FF M) (fN : FF N) (fr : FF r) (fg : FF g) (fb : FF b) (h : fv N < fv M) (hb : fv M - fv N ≤ 2) (er : fv r = fv M) (eg : fv g = fv N) (eb : fv b = fv N) : FF (hueF M N r g b) ∧ fv (hueF M N r g b) = 0 := by
  obtain ⟨fP, P0, _⟩ := range_pos fM fN h hb
  have one : ∀ c : UInt64, FF c → fv c = fv N → FF (rcF M N c) ∧ fv (rcF M N c) = 1 := fun c fc ec => by
    have rP := Rd_sub fM fN
    have rX := Rd_sub fM fc
    rw [ec] at rX
    have fX : FF (Float64.sub M c) := (rX.err2 (by grind) (by grind)).1
    have e1 := rP.mono rX fP fX Rat.le_refl
    have e2 := rX.mono rP fX fP Rat.le_refl
    have e : fv (Float64.sub M c) = fv (Float64.sub M N) := by grind
    have rd := Rd_div fX fP (by grind)
    have q1 : fv (Float64.sub M c) / fv (Float64.sub M N) = 1 := by rw [e]; grind
    rw [q1] at rd
    obtain ⟨f, _⟩ := rd.err1 (by decide) (by decide)
    exact ⟨f, rd.exact f one_Rp⟩
  obtain ⟨fbc, ebc⟩ := one b fb eb
  obtain ⟨fgc, egc⟩ := one g fg eg
  have h0 : FF (hue0 M N r g b) ∧ fv (hue0 M N r g b) = 0 := by
    unfold hue0
    rw [cmp_eq fr fM, if_pos (by simpa using er)]
    have r := Rd_sub fbc fgc
    rw [ebc, egc, show (1 : Rat) - 1 = 0 by grind] at r
    obtain ⟨f, _⟩ := r.err1 (by decide) (by decide)
    exact ⟨f, r.exact f Rp0⟩
  unfold hueF
  have r := Rd_div h0.1 k6.1 (by rw [k6.2]; decide)
  rw [h0.2, k6.2, show (0 : Rat) / 6 = 0 by grind] at r
  obtain ⟨f, _⟩ := r.err1 (by decide) (by decide)
  have e := r.exact f Rp0
  refine ⟨(mod1_spec f).1, ?_⟩
  rw [mod1_in f (by grind) (by grind), e]

end Mine

end
section
open PySem PySem.Float64
namespace Mine

theorem cancelQ {a b t : Rat} (ht : 0 < t) (h : a * t = b * t) : a = b := by
  have h1 := Rat.le_of_mul_le_mul_right (a := a) (b := b) (c := t) (by grind) ht
  have h2 := Rat.le_of_mul_le_mul_right (a := b) (b := a) (c := t) (by grind) ht
  grind
/-- the floats from 2^-j on are multiples of 2^-(52+j) -/
theorem grid_Rp {w : Rat} {j : Nat} (hj : j ≤ 100) (f : Rp w) (h : 1 / 2 ^ j ≤ w) : Gd (52 + j) w := by
  obtain ⟨m, k, hm, e⟩ := f
  have hS : (S : Rat) = 2 ^ (52 + j) * ((2 ^ (1022 - j) : Nat) : Rat) := by
    unfold S; rw [pow_cast, pow_cast, ← pow_split, show 52 + j + (1022 - j) = 1074 by omega]
  have pp : (0 : Rat) < ((2 ^ (1022 - j) : Nat) : Rat) := Rat.natCast_pos.mpr (Nat.two_pow_pos _)
  rcases Nat.lt_or_ge k (1022 - j) with q | q
  · -- then x is the power itself
    have hjp : (0 : Rat) < 2 ^ j := Rat.pow_pos (by decide)
    have hlo : ((2 ^ 52 * 2 ^ (1022 - j) : Nat) : Rat) ≤ (m : Rat) * (2 ^ k : Nat) := by
      rw [← e, hS, Rat.natCast_mul, pow_cast 52, pow_split]
      have a := Rat.mul_le_mul_of_nonneg_right h (Rat.le_of_lt hjp)
      rw [Rat.div_mul_cancel (pow_ne j)] at a
      have b := Rat.mul_le_mul_of_nonneg_right a (show (0 : Rat) ≤ 2 ^ 52 * ((2 ^ (1022 - j) : Nat) : Rat) from Rat.mul_nonneg (by decide +kernel) (Rat.le_of_lt pp))
      generalize ((2 ^ (1022 - j) : Nat) : Rat) = z at *
      generalize (2 : Rat) ^ j = y at *
      grind
    have m0 : 0 ≤ m := by
      rcases Int.lt_or_le m 0 with p | p
      · exfalso
        have : (m : Rat) ≤ 0 := by have := icast_le (show m ≤ 0 by omega); simpa using this
        have p2 : (0 : Rat) ≤ ((2 ^ k : Nat) : Rat) := Rat.natCast_nonneg
        have := Rat.mul_le_mul_of_nonneg_right this p2
        have n : (0 : Rat) < ((2 ^ 52 * 2 ^ (1022 - j) : Nat) : Rat) := Rat.natCast_pos.mpr (Nat.mul_pos (Nat.two_pow_pos _) (Nat.two_pow_pos _))
        grind
      · exact p
    obtain ⟨n, rfl⟩ : ∃ n : Nat, m = n := ⟨m.toNat, by omega⟩
    rw [Rat.intCast_natCast, ← Rat.natCast_mul] at hlo
    have hlo := Rat.natCast_le_natCast.mp hlo
    have hn : n ≤ 2 ^ 53 := by omega
    have hk : k = 1021 - j := by
      rcases Nat.lt_or_ge k (1021 - j) with p | p
      · exfalso
        have a : n * 2 ^ k ≤ 2 ^ 53 * 2 ^ (1020 - j) := Nat.mul_le_mul hn (Nat.pow_le_pow_right (by decide) (by omega))
        have b : 2 ^ 53 * 2 ^ (1020 - j) < 2 ^ 52 * 2 ^ (1022 - j) := by
          rw [← Nat.pow_add, ← Nat.pow_add]
          exact Nat.pow_lt_pow_right (by decide) (by omega)
        exact absurd (Nat.le_trans hlo a) (Nat.not_le.mpr b)
      · omega
    subst hk
    have e3 : 2 ^ (1022 - j) = 2 * 2 ^ (1021 - j) := by rw [show 1022 - j = (1021 - j) + 1 by omega, Nat.pow_succ, Nat.mul_comm]
    have hn2 : n = 2 ^ 53 := by
      rw [e3, ← Nat.mul_assoc] at hlo
      have := Nat.le_of_mul_le_mul_right hlo (Nat.two_pow_pos _)
      omega
    refine ⟨2 ^ 52, ?_⟩
    apply cancelQ pp
    have : w * 2 ^ (52 + j) * ((2 ^ (1022 - j) : Nat) : Rat) = w * S := by rw [hS]; grind
    rw [this, e, hn2, e3, Rat.natCast_mul, Rat.intCast_natCast]
    have : ((2 ^ 53 : Nat) : Rat) = 2 * ((2 ^ 52 : Int) : Rat) := by decide +kernel
    rw [this, show ((2 : Nat) : Rat) = 2 from rfl]
    generalize ((2 ^ (1021 - j) : Nat) : Rat) = z
    generalize ((2 ^ 52 : Int) : Rat) = y
    grind
  · refine ⟨m * (2 ^ (k - (1022 - j)) : Nat), ?_⟩
    apply cancelQ pp
    have : w * 2 ^ (52 + j) * ((2 ^ (1022 - j) : Nat) : Rat) = w * S := by rw [hS]; grind
    have e4 : 2 ^ k = 2 ^ (k - (1022 - j)) * 2 ^ (1022 - j) := by rw [← Nat.pow_add, show k - (1022 - j) + (1022 - j) = k by omega]
    rw [this, e, e4, Rat.natCast_mul, Rat.intCast_mul, Rat.intCast_natCast]
    grind

theorem grid_one {w : Rat} (f : Rp w) (h : 1 ≤ w) : Gd 52 w := grid_Rp (j := 0) (by decide) f (by rw [show (2 : Rat) ^ 0 = 1 by decide +kernel]; grind)
end Mine

end
section
open PySem PySem.Float64
namespace Mine

end Mine

end
section
open PySem PySem.Float64
namespace Mine

end Mine

end
section
open PySem PySem.Float64
namespace Mine

end Mine

end
section
open PySem PySem.Float64
namespace Mine

/-- nothing, or well above the smallest floats -/
noncomputable def Off (q : Rat) : Prop := q = 0 ∨ 1 / 2 ^ 100 ≤ q ∨ q ≤ -(1 / 2 ^ 100)

theorem scale9 {r r' : UInt64} {q : Rat} {n : Nat} (h : Rd r q) (h' : Rd r' (q / 2 ^ n)) (hf : FF r) (hf' : FF r') (hq : Off q) (hn : n ≤ 900) : fv r' = fv r / 2 ^ n := by
  have hne := pow_ne n
  have hp : (0 : Rat) < 2 ^ n := Rat.pow_pos (by decide)
  by_cases h0 : q = 0
  · subst h0
    rw [h.exact hf Rp0]
    have : (0 : Rat) / 2 ^ n = 0 := by simp [Rat.div_def]
    rw [this] at h' ⊢
    exact h'.exact hf' Rp0
  have hq' := hq.resolve_left h0
  obtain ⟨neg, t, e1, n1, p1⟩ := h.nr hf
  obtain ⟨neg', t', e2, n2, p2⟩ := h'.nr hf'
  have ex : q / 2 ^ n * 2 ^ n = q := Rat.div_mul_cancel hne
  have hs : neg = neg' := by
    cases neg <;> cases neg' <;> simp at p1 p2 ⊢
    · have := Rat.mul_le_mul_of_nonneg_right p2 (Rat.le_of_lt hp)
      grind
    · have := Rat.mul_le_mul_of_nonneg_right p2 (Rat.le_of_lt hp)
      grind
  subst hs
  have hS := S_pos
  have tiny : Rp (1 / 2 ^ 100) := ⟨1, 974, by decide, by
    rw [E_inv (by decide), Rat.intCast_one, Rat.one_mul]⟩
  have tiny' : Rp (-(1 / 2 ^ 100)) := ⟨-1, 974, by decide, by
    have := E_inv (a := 100) (by decide)
    rw [Rat.intCast_neg, Rat.intCast_one]; grind⟩
  have big : (1 / 2 ^ 100 : Rat) * S ≤ V t := by
    rcases hq' with z | z
    · have := Rat.mul_le_mul_of_nonneg_right (h.ge hf tiny z) (Rat.le_of_lt hS)
      rw [e1] at this
      cases neg <;> simp at this p1 <;> grind
    · have := Rat.mul_le_mul_of_nonneg_right (h.le hf tiny' z) (Rat.le_of_lt hS)
      rw [e1] at this
      cases neg <;> simp at this p1 <;> grind
  rw [E_inv (by decide)] at big
  have big := Rat.natCast_le_natCast.mp big
  have ht : (n + 1) * 2 ^ 52 ≤ t := by
    rcases Nat.lt_or_ge t ((n + 1) * 2 ^ 52) with z | z
    · have v := V_lt z
      have e : (n + 1) * 2 ^ 52 = n * 2 ^ 52 + 2 ^ 52 := by omega
      rw [e, V_at (by omega) (.inl (Nat.le_refl _)), ← Nat.pow_add] at v
      have : 2 ^ (1020 - 100 + 54) < 2 ^ (52 + n) := Nat.lt_of_le_of_lt big v
      have := (Nat.pow_lt_pow_iff_right (a := 2) (by decide)).mp this
      omega
    · exact z
  have n3 := nr_down (n := n) n1 ht
  have ey : (if neg = true then -q else q) * S / 2 ^ n = (if neg = true then -(q / 2 ^ n) else q / 2 ^ n) * S := by cases neg <;> simp <;> grind
  rw [ey] at n3
  have et := nr_unique n2 n3
  subst et
  have hd : ((V (t - n * 2 ^ 52) : Nat) : Rat) * 2 ^ n = (V t : Nat) := by rw [← V_down ht, Rat.natCast_mul, pow_cast]
  have hSne := S_ne
  have : fv r' * S * 2 ^ n = fv r * S := by rw [e1, e2]; cases neg <;> simp <;> grind
  grind

/-- halved n times -/
structure Sh (n : Nat) (x x' : UInt64) : Prop where
  f : FF x
  f' : FF x'
  e : fv x' = fv x / 2 ^ n
theorem inv_bd (n : Nat) : (0 : Rat) < 1 / 2 ^ n ∧ (1 : Rat) / 2 ^ n ≤ 1 := by
  have hp : (0 : Rat) < 2 ^ n := Rat.pow_pos (by decide)
  have h1 : (1 : Rat) ≤ 2 ^ n := by have := pow_mono2 (a := 0) (b := n) (by omega); simpa using this
  have e : (1 : Rat) / 2 ^ n * 2 ^ n = 1 := Rat.div_mul_cancel (pow_ne n)
  exact ⟨Rat.lt_of_mul_lt_mul_right (c := (2 : Rat) ^ n) (by rw [e]; grind) (Rat.le_of_lt hp), Rat.le_of_mul_le_mul_right (c := (2 : Rat) ^ n) (by rw [e]; grind) hp⟩
theorem div_eq (q : Rat) (n : Nat) : q / 2 ^ n = q * (1 / 2 ^ n) := by grind
theorem Sh.of {n : Nat} {r r' : UInt64} {q : Rat} (h : Rd r q) (h' : Rd r' (q / 2 ^ n)) (h1 : -8 ≤ q) (h2 : q ≤ 8) (hq : Off q) (hn : n ≤ 900) : Sh n r r' := by
  obtain ⟨i0, i1⟩ := inv_bd n
  have f := (h.err8 h1 h2).1
  have b : -8 ≤ q / 2 ^ n ∧ q / 2 ^ n ≤ 8 := by
    rw [div_eq]
    have := mulb (a := q) (d := 8) h2 h1 (Rat.le_of_lt i0) i1
    exact ⟨by grind, by grind⟩
  have f' := (h'.err8 b.1 b.2).1
  exact ⟨f, f', scale9 h h' f f' hq hn⟩
theorem Sh.add {n : Nat} {x x' y y' : UInt64} (hx : Sh n x x') (hy : Sh n y y') (h1 : -8 ≤ fv x + fv y) (h2 : fv x + fv y ≤ 8) (hq : Off (fv x + fv y)) (hn : n ≤ 900) : Sh n (Float64.add x y) (Float64.add x' y') := by
  have r' := Rd_add hx.f' hy.f'
  rw [hx.e, hy.e, show fv x / 2 ^ n + fv y / 2 ^ n = (fv x + fv y) / 2 ^ n by grind] at r'
  exact Sh.of (Rd_add hx.f hy.f) r' h1 h2 hq hn
theorem Sh.sub {n : Nat} {x x' y y' : UInt64} (hx : Sh n x x') (hy : Sh n y y') (h1 : -8 ≤ fv x - fv y) (h2 : fv x - fv y ≤ 8) (hq : Off (fv x - fv y)) (hn : n ≤ 900) : Sh n (Float64.sub x y) (Float64.sub x' y') := by
  have r' := Rd_sub hx.f' hy.f'
  rw [hx.e, hy.e, show fv x / 2 ^ n - fv y / 2 ^ n = (fv x - fv y) / 2 ^ n by grind] at r'
  exact Sh.of (Rd_sub hx.f hy.f) r' h1 h2 hq hn
theorem Sh.mul {n : Nat} {x x' y : UInt64} (hx : Sh n x x') (hy : FF y) (h1 : -8 ≤ fv x * fv y) (h2 : fv x * fv y ≤ 8) (hq : Off (fv x * fv y)) (hn : n ≤ 900) : Sh n (Float64.mul x y) (Float64.mul x' y) := by
  have r' := Rd_mul hx.f' hy
  rw [hx.e, show fv x / 2 ^ n * fv y = (fv x * fv y) / 2 ^ n by grind] at r'
  exact Sh.of (Rd_mul hx.f hy) r' h1 h2 hq hn
theorem Sh.mul' {n : Nat} {x x' y : UInt64} (hx : Sh n x x') (hy : FF y) (h1 : -8 ≤ fv y * fv x) (h2 : fv y * fv x ≤ 8) (hq : Off (fv y * fv x)) (hn : n ≤ 900) : Sh n (Float64.mul y x) (Float64.mul y x') := by
  have r' := Rd_mul hy hx.f'
  rw [hx.e, show fv y * (fv x / 2 ^ n) = (fv y * fv x) / 2 ^ n by grind] at r'
  exact Sh.of (Rd_mul hy hx.f) r' h1 h2 hq hn
theorem Sh.lt {n : Nat} {x x' y y' : UInt64} (hx : Sh n x x') (hy : Sh n y y') : (fv x' < fv y') ↔ (fv x < fv y) := by
  obtain ⟨i0, i1⟩ := inv_bd n
  rw [hx.e, hy.e, div_eq (fv x), div_eq (fv y)]
  constructor
  · intro h; exact Rat.lt_of_mul_lt_mul_right h (Rat.le_of_lt i0)
  · intro h; exact Rat.mul_lt_mul_of_pos_right h i0
theorem Sh.eq {n : Nat} {x x' y y' : UInt64} (hx : Sh n x x') (hy : Sh n y y') : (fv x' = fv y') ↔ (fv x = fv y) := by
  obtain ⟨i0, i1⟩ := inv_bd n
  rw [hx.e, hy.e, div_eq (fv x), div_eq (fv y)]
  constructor
  · intro h
    have a := Rat.le_of_mul_le_mul_right (a := fv x) (b := fv y) (c := 1 / 2 ^ n) (by rw [h]; exact Rat.le_refl) i0
    have b := Rat.le_of_mul_le_mul_right (a := fv y) (b := fv x) (c := 1 / 2 ^ n) (by rw [h]; exact Rat.le_refl) i0
    grind
  · intro h; rw [h]
theorem Sh.mx {n : Nat} {x x' y y' : UInt64} (hx : Sh n x x') (hy : Sh n y y') : Sh n (mx x y) (mx x' y') := by
  unfold Mine.mx
  rw [cmp_lt hx.f hy.f, cmp_lt hx.f' hy.f']
  by_cases z : fv x < fv y
  · rw [if_pos (by simpa using z), if_pos (by simpa using (Sh.lt hx hy).mpr z)]; exact hy
  · rw [if_neg (by simpa using z), if_neg (by simpa using fun h => z ((Sh.lt hx hy).mp h))]; exact hx
theorem Sh.mn {n : Nat} {x x' y y' : UInt64} (hx : Sh n x x') (hy : Sh n y y') : Sh n (mn x y) (mn x' y') := by
  unfold Mine.mn
  rw [cmp_lt hy.f hx.f, cmp_lt hy.f' hx.f']
  by_cases z : fv y < fv x
  · rw [if_pos (by simpa using z), if_pos (by simpa using (Sh.lt hy hx).mpr z)]; exact hy
  · rw [if_neg (by simpa using z), if_neg (by simpa using fun h => z ((Sh.lt hy hx).mp h))]; exact hx
/-- the same quotient -/
theorem Sh.div {n : Nat} {x x' y y' : UInt64} (hx : Sh n x x') (hy : Sh n y y') (hne : ¬ fv y = 0) (h1 : -8 ≤ fv x / fv y) (h2 : fv x / fv y ≤ 8) : FF (Float64.div x y) ∧ FF (Float64.div x' y') ∧ fv (Float64.div x' y') = fv (Float64.div x y) := by
  have hne' : ¬ fv y' = 0 := fun z => hne (by
    have := hy.e; rw [z] at this
    have e : fv y / 2 ^ n * 2 ^ n = fv y := Rat.div_mul_cancel (pow_ne n)
    rw [← this] at e; grind)
  have r := Rd_div hx.f hy.f hne
  have r' := Rd_div hx.f' hy.f' hne'
  have e : fv x' / fv y' = fv x / fv y := by
    rw [hx.e, hy.e]
    have := pow_ne n
    generalize (2 : Rat) ^ n = z at *
    grind
  rw [e] at r'
  have f := (r.err8 h1 h2).1
  have f' := (r'.err8 h1 h2).1
  have a := r.mono r' f f' Rat.le_refl
  have b := r'.mono r f' f Rat.le_refl
  exact ⟨f, f', by grind⟩
/-- two roundings of one number -/
theorem Rd.same {r r' : UInt64} {q : Rat} (h : Rd r q) (h' : Rd r' q) (f : FF r) (f' : FF r') : fv r' = fv r := by
  have a := h.mono h' f f' Rat.le_refl
  have b := h'.mono h f' f Rat.le_refl
  grind
end Mine

end
section
open PySem PySem.Float64
namespace Mine

/-- nothing, or not tiny -/
noncomputable def Okc (x : UInt64) : Prop := fv x = 0 ∨ 1 / 2 ^ 81 ≤ fv x
theorem Rp_inv {k : Nat} (hk : k ≤ 1000) : Rp (1 / 2 ^ k) := Rp_grid (k := k) (m := 1) hk (by decide) (by rw [Rat.div_mul_cancel (pow_ne k)]; rfl)
theorem Gd_n0 {k : Nat} : Gd k 0 := ⟨0, by rw [Rat.intCast_zero]; grind⟩
theorem Off.of {q : Rat} (h : q = 0 ∨ 1 / 2 ^ 99 ≤ q) : Off q := by
  rcases h with z | z
  · exact .inl z
  · exact .inr (.inl (by grind))

theorem ramp_sh {m1 m2 m1' m2' x : UInt64} {n : Nat} (hn : n ≤ 900) (h1 : Sh n m1 m1') (h2 : Sh n m2 m2') (fx : FF x) (x0 : fv x = 0 ∨ 1 / 2 ^ 54 ≤ fv x) (x1 : fv x ≤ 1) (a0 : fv m1 = 0 ∨ 1 / 2 ^ 65 ≤ fv m1) (a1 : fv m1 ≤ 1) (b1 : fv m2 ≤ 1) (d0 : fv m2 - fv m1 = 0 ∨ 1 / 2 ^ 27 ≤ fv m2 - fv m1) :
    Sh n (Float64.add m1 (Float64.mul (Float64.mul (Float64.sub m2 m1) x) 4618441417868443648)) (Float64.add m1' (Float64.mul (Float64.mul (Float64.sub m2' m1') x) 4618441417868443648)) ∧ Okc (Float64.add m1 (Float64.mul (Float64.mul (Float64.sub m2 m1) x) 4618441417868443648)) := by
  have m0 : 0 ≤ fv m1 := by grind
  have xx0 : 0 ≤ fv x := by grind
  have dd0 : 0 ≤ fv m2 - fv m1 := by grind
  have sD := Sh.sub h2 h1 (by grind) (by grind) (Off.of (by grind)) hn
  have rD := Rd_sub h2.f h1.f
  have D0 : fv (Float64.sub m2 m1) = 0 ∨ 1 / 2 ^ 27 ≤ fv (Float64.sub m2 m1) := by
    rcases d0 with z | z
    · left; rw [z] at rD; exact rD.exact sD.f Rp0
    · right; exact rD.ge sD.f (Rp_inv (by decide)) z
  have D1 := rD.le sD.f one_Rp (by grind)
  generalize Float64.sub m2 m1 = D at *
  generalize Float64.sub m2' m1' = D' at *
  have p0 : fv D * fv x = 0 ∨ 1 / 2 ^ 81 ≤ fv D * fv x := by
    rcases D0 with z | z
    · left; rw [z]; grind
    · rcases x0 with y | y
      · left; rw [y]; grind
      · right
        have a := Rat.mul_le_mul_of_nonneg_right z xx0
        have b := Rat.mul_le_mul_of_nonneg_left y (show (0 : Rat) ≤ 1 / 2 ^ 27 by decide +kernel)
        grind
  have DD0 : 0 ≤ fv D := by grind
  have p1 := mulb (a := fv D) (d := 1) D1 (by grind) xx0 x1
  have sP := Sh.mul sD fx (by grind) (by grind) (Off.of (by grind)) hn
  have rP := Rd_mul sD.f fx
  have P0 : fv (Float64.mul D x) = 0 ∨ 1 / 2 ^ 81 ≤ fv (Float64.mul D x) := by
    rcases p0 with z | z
    · left; rw [z] at rP; exact rP.exact sP.f Rp0
    · right; exact rP.ge sP.f (Rp_inv (by decide)) z
  have P1 := rP.le sP.f one_Rp (by grind)
  generalize Float64.mul D x = p at *
  generalize Float64.mul D' x = p' at *
  have sT := Sh.mul sP k6.1 (by rw [k6.2]; grind) (by rw [k6.2]; grind) (Off.of (by rw [k6.2]; grind)) hn
  have rT := Rd_mul sP.f k6.1
  rw [k6.2] at rT
  have T0 : fv (Float64.mul p 4618441417868443648) = 0 ∨ 1 / 2 ^ 81 ≤ fv (Float64.mul p 4618441417868443648) := by
    rcases P0 with z | z
    · left; rw [z, show (0 : Rat) * 6 = 0 by grind] at rT; exact rT.exact sT.f Rp0
    · right; exact rT.ge sT.f (Rp_inv (by decide)) (by grind)
  have T1 := rT.le sT.f (f := 6) (by rw [← k6.2]; exact Rp_fv k6.1) (by grind)
  generalize Float64.mul p 4618441417868443648 = t at *
  generalize Float64.mul p' 4618441417868443648 = t' at *
  have sS := Sh.add h1 sT (by grind) (by grind) (Off.of (by grind)) hn
  have rS := Rd_add h1.f sT.f
  refine ⟨sS, ?_⟩
  unfold Okc
  by_cases z : fv m1 + fv t = 0
  · left; rw [z] at rS; exact rS.exact sS.f Rp0
  · right; exact rS.ge sS.f (Rp_inv (by decide)) (by grind)

theorem hlsC_sh {ha l l' s : UInt64} {n : Nat} (hn : n ≤ 900) (fa : FF ha) (fs : FF s) (hl : Sh n l l') (l0 : fv l = 0 ∨ 1 / 2 ^ 13 ≤ fv l) (l1 : fv l ≤ 1/2) (s0 : fv s = 0 ∨ 1 / 2 ^ 13 ≤ fv s) (s1 : fv s ≤ 1) (x0 : fv (mod1 ha) = 0 ∨ 1 / 2 ^ 54 ≤ fv (mod1 ha)) :
    Sh n (hlsC ha l s) (hlsC ha l' s) ∧ Okc (hlsC ha l s) := by
  obtain ⟨i0, i1⟩ := inv_bd n
  have ll0 : 0 ≤ fv l := by grind
  have ss0 : 0 ≤ fv s := by grind
  have le' : fv l' ≤ 1/2 := by
    rw [hl.e, div_eq]
    have := mulb (a := fv l) (d := 1/2) l1 (by grind) (Rat.le_of_lt i0) i1
    grind
  unfold hlsC
  rw [cmp_eq fs fv0.1, fv0.2]
  by_cases z : fv s = 0
  · rw [if_pos (by simpa using z), if_pos (by simpa using z)]
    exact ⟨hl, by unfold Okc; grind⟩
  rw [if_neg (by simpa using z), if_neg (by simpa using z)]
  have two : Rp 2 := by rw [← k2.2]; exact Rp_fv k2.1
  -- m2
  have em2 : hlsM2 l s = Float64.mul l (Float64.add 4607182418800017408 s) := by
    unfold hlsM2 leF; rw [cmp_le hl.f kh.1, kh.2, if_pos (by simpa using l1)]
  have em2' : hlsM2 l' s = Float64.mul l' (Float64.add 4607182418800017408 s) := by
    unfold hlsM2 leF; rw [cmp_le hl.f' kh.1, kh.2, if_pos (by simpa using le')]
  obtain ⟨⟨g2, p2, q2⟩, g1, p1, q1⟩ := hlsM_err hl.f fs ll0 (by grind) ss0 s1
  have en : nearE (fv l) = fv l := by unfold nearE; rw [if_pos l1]
  rw [en] at p1 q1 p2 q2
  have ra := Rd_add fv1.1 fs
  rw [fv1.2] at ra
  obtain ⟨ga, _⟩ := ra.err2 (by grind) (by grind)
  have a1 := ra.ge ga one_Rp (by grind)
  have a2 := ra.le ga two (by grind)
  have S2 : Sh n (hlsM2 l s) (hlsM2 l' s) := by
    rw [em2, em2']
    have b := mulb (a := fv l) (d := 1/2) (x := fv (Float64.add 4607182418800017408 s)) (c := 2) l1 (by grind) (by grind) a2
    refine Sh.mul hl ga (by grind) (by grind) (Off.of ?_) hn
    rcases l0 with y | y
    · left; rw [y]; grind
    · right
      have := Rat.mul_le_mul_of_nonneg_left a1 ll0
      grind
  have lo2 : fv l ≤ fv (hlsM2 l s) ∧ fv (hlsM2 l s) ≤ 2 * fv l := by
    have r := Rd_mul hl.f ga
    rw [em2] at g2 ⊢
    have u := Rat.mul_le_mul_of_nonneg_left a1 ll0
    have v := Rat.mul_le_mul_of_nonneg_left a2 ll0
    exact ⟨r.ge g2 (Rp_fv hl.f) (by grind), r.le g2 (dblRp (Rp_fv hl.f)) (by grind)⟩
  -- 2l
  have S2l : Sh n (Float64.mul 4611686018427387904 l) (Float64.mul 4611686018427387904 l') := by
    refine Sh.mul' hl k2.1 (by rw [k2.2]; grind) (by rw [k2.2]; grind) (Off.of ?_) hn
    rw [k2.2]
    rcases l0 with y | y
    · left; rw [y]; grind
    · right; grind
  have r2l := Rd_mul k2.1 hl.f
  rw [k2.2] at r2l
  have e2l := r2l.exact S2l.f (dblRp (Rp_fv hl.f))
  have gd : Gd 65 (2 * fv l - fv (hlsM2 l s)) ∧ Gd 65 (fv (hlsM2 l s)) := by
    rcases l0 with y | y
    · have : fv (hlsM2 l s) = 0 := by grind
      rw [this, y]
      refine ⟨?_, ?_⟩
      · have := Gd_n0 (k := 65); rwa [show (2 : Rat) * 0 - 0 = 0 by grind]
      · exact Gd_n0
    · have g := grid_Rp (j := 13) (by decide) (Rp_fv hl.f) y
      have g' := grid_Rp (j := 13) (by decide) (Rp_fv g2) (by grind)
      exact ⟨Gd.sub (by have := Gd.add g g; rwa [show fv l + fv l = 2 * fv l by grind] at this) g', g'⟩
  have S1 : Sh n (hlsM1 l s) (hlsM1 l' s) := by
    unfold hlsM1
    refine Sh.sub S2l S2 (by rw [e2l]; grind) (by rw [e2l]; grind) ?_ hn
    rw [e2l]
    rcases gd.1.tiny with y | y | y
    · exact .inl y
    · exact .inr (.inl (by grind))
    · exact .inr (.inr (by grind))
  have rm1 := Rd_sub S2l.f g2
  rw [e2l] at rm1
  have m10 : 0 ≤ fv (hlsM1 l s) := rm1.ge g1 Rp0 (by grind)
  have gm1 : Gd 65 (fv (hlsM1 l s)) := Gd.round (by decide) rm1 g1 gd.1
  have m1t : fv (hlsM1 l s) = 0 ∨ 1 / 2 ^ 65 ≤ fv (hlsM1 l s) := by
    have := gm1.tiny; grind
  have dt : fv (hlsM2 l s) - fv (hlsM1 l s) = 0 ∨ 1 / 2 ^ 27 ≤ fv (hlsM2 l s) - fv (hlsM1 l s) := by
    rcases l0 with y | y
    · left
      have e2 : fv (hlsM2 l s) = 0 := by grind
      have e1 : fv (hlsM1 l s) = 0 := by
        rw [e2, y, show (2 : Rat) * 0 - 0 = 0 by grind] at rm1
        exact rm1.exact g1 Rp0
      rw [e1, e2]; grind
    · right
      have s0' := s0.resolve_left z
      have u := Rat.mul_le_mul_of_nonneg_right s0' ll0
      have v := Rat.mul_le_mul_of_nonneg_left y (show (0 : Rat) ≤ 1 / 2 ^ 13 by decide +kernel)
      grind
  have c1 : fv (hlsM1 l s) ≤ 1 := by
    have := rm1.le g1 one_Rp (by grind)
    exact this
  have c2 : fv (hlsM2 l s) ≤ 1 := by grind
  have ok2 : Okc (hlsM2 l s) := by unfold Okc; grind
  have ok1 : Okc (hlsM1 l s) := by unfold Okc; grind
  obtain ⟨fm, h0, h1, _⟩ := mod1_spec fa
  unfold vF
  generalize mod1 ha = h at *
  rw [vT_eq fm, vT_eq fm]
  by_cases z1 : fv h < 6004799503160661 / 2 ^ 55
  · rw [if_pos z1, if_pos z1]
    exact ramp_sh hn S1 S2 fm x0 h1 m1t c1 c2 dt
  rw [if_neg z1, if_neg z1]
  by_cases z2 : fv h < 1/2
  · rw [if_pos z2, if_pos z2]; exact ⟨S2, ok2⟩
  rw [if_neg z2, if_neg z2]
  by_cases z3 : fv h < 6004799503160661 / 2 ^ 53
  · rw [if_pos z3, if_pos z3]
    have r := Rd_sub k23.1 fm
    rw [k23.2] at r
    obtain ⟨fx, _⟩ := r.err1 (by grind) (by grind)
    have gh : Gd 53 (fv h) := grid_Rp (j := 1) (by decide) (Rp_fv fm) (by rw [show (2 : Rat) ^ 1 = 2 by decide +kernel]; grind)
    have gq : Gd 53 (6004799503160661 / 2 ^ 53 - fv h) := Gd.sub ⟨6004799503160661, by decide +kernel⟩ gh
    have lo := r.ge fx (Rp_inv (k := 53) (by decide)) (by have := gq.tiny; grind)
    have hi := r.le fx one_Rp (by grind)
    exact ramp_sh hn S1 S2 fx (.inr (by grind)) hi m1t c1 c2 dt
  · rw [if_neg z3, if_neg z3]; exact ⟨S1, ok1⟩

theorem mod1_same {x y : UInt64} (fx : FF x) (fy : FF y) (e : fv y = fv x) : FF (mod1 x) ∧ FF (mod1 y) ∧ fv (mod1 y) = fv (mod1 x) := by
  obtain ⟨f1, _, _, k, f, e1, a0, a1, h1⟩ := mod1_spec fx
  obtain ⟨f2, _, _, k', f', e2, b0, b1, h2⟩ := mod1_spec fy
  have hk : k' = k := by
    rw [e] at e2
    have a : (k' : Rat) < ((k + 1 : Int) : Rat) := by rw [Rat.intCast_add, Rat.intCast_one]; grind
    have b : (k : Rat) < ((k' + 1 : Int) : Rat) := by rw [Rat.intCast_add, Rat.intCast_one]; grind
    have a := Rat.intCast_lt_intCast.mp a
    have b := Rat.intCast_lt_intCast.mp b
    omega
  subst hk
  have hf : f' = f := by grind
  subst hf
  refine ⟨f1, f2, ?_⟩
  rcases h1 with z | ⟨_, z⟩ <;> rcases h2 with y | ⟨_, y⟩
  · rw [z, y]
  · have : Rp f' := by rw [← z]; exact Rp_fv f1
    rw [z, y.exact f2 this]
  · have : Rp f' := by rw [← y]; exact Rp_fv f2
    rw [y, z.exact f1 this]
  · exact Rd.same z y f1 f2
end Mine

end
section
open PySem PySem.Float64
namespace Mine

/-- told of a colour and of the halved one -/
structure Told (n : Nat) (r g b r' g' b' : UInt64) : Prop where
  fh : FF (toH r g b)
  fh' : FF (toH r' g' b')
  h : fv (toH r' g' b') = fv (toH r g b)
  l : Sh n (toL r g b) (toL r' g' b')
  fs : FF (toS r g b)
  fs' : FF (toS r' g' b')
  s : fv (toS r' g' b') = fv (toS r g b)

theorem rc_sh {M N r M' N' r' : UInt64} {n : Nat} (hn : n ≤ 900) (hM : Sh n M M') (hr : Sh n r r') (hP : Sh n (Float64.sub M N) (Float64.sub M' N')) (P0 : 0 < fv (Float64.sub M N)) (r0 : 0 ≤ fv r) (r1 : fv r ≤ fv M) (XP : fv (Float64.sub M r) ≤ fv (Float64.sub M N)) (M0 : 1 / 2 ^ 14 ≤ fv M) (M1 : fv M ≤ 1) :
    FF (rcF M N r) ∧ FF (rcF M' N' r') ∧ fv (rcF M' N' r') = fv (rcF M N r) ∧ 0 ≤ fv (rcF M N r) ∧ fv (rcF M N r) ≤ 1 := by
  have off : Off (fv M - fv r) := by
    refine Off.of ?_
    by_cases z : fv r < fv M / 2
    · right; grind
    · have g1 := grid_Rp (j := 15) (by decide) (Rp_fv hM.f) (by grind)
      have g2 := grid_Rp (j := 15) (by decide) (Rp_fv hr.f) (by grind)
      have := (Gd.sub g1 g2).tiny
      grind
  have sX := Sh.sub hM hr (by grind) (by grind) off hn
  have X0 := (Rd_sub hM.f hr.f).ge sX.f Rp0 (by grind)
  have hne : ¬ fv (Float64.sub M N) = 0 := by grind
  have eq : fv (Float64.sub M r) / fv (Float64.sub M N) * fv (Float64.sub M N) = fv (Float64.sub M r) := Rat.div_mul_cancel hne
  have q0 : 0 ≤ fv (Float64.sub M r) / fv (Float64.sub M N) := Rat.le_of_mul_le_mul_right (c := fv (Float64.sub M N)) (by grind) P0
  have q1 : fv (Float64.sub M r) / fv (Float64.sub M N) ≤ 1 := Rat.le_of_mul_le_mul_right (c := fv (Float64.sub M N)) (by grind) P0
  obtain ⟨f, f', e⟩ := Sh.div sX hP hne (by grind) (by grind)
  have rd := Rd_div sX.f hP.f hne
  exact ⟨f, f', e, rd.ge f Rp0 q0, rd.le f one_Rp q1⟩

theorem told_sh {r g b r' g' b' : UInt64} {n : Nat} (hn : n ≤ 900) (hr : Sh n r r') (hg : Sh n g g') (hb : Sh n b b') (kr : Okc r) (kg : Okc g) (kb : Okc b) (r1 : fv r ≤ 1) (g1 : fv g ≤ 1) (b1 : fv b ≤ 1)
    (hdark : fv (toL r g b) ≤ 1/2) (hbig : ¬ fv (mn3 r g b) = fv (mx3 r g b) → 1 / 2 ^ 14 ≤ fv (mx3 r g b) ∧ 1 / 2 ^ 40 ≤ fv (mx3 r g b) - fv (mn3 r g b)) : Told n r g b r' g' b' := by
  unfold Okc at kr kg kb
  have r0 : 0 ≤ fv r := by grind
  have g0 : 0 ≤ fv g := by grind
  have b0 : 0 ≤ fv b := by grind
  have hM : Sh n (mx3 r g b) (mx3 r' g' b') := Sh.mx (Sh.mx hr hg) hb
  have hN : Sh n (mn3 r g b) (mn3 r' g' b') := Sh.mn (Sh.mn hr hg) hb
  obtain ⟨fM, M1, M2, M3, M4⟩ := mx3_fv hr.f hg.f hb.f
  obtain ⟨fN, N1, N2, N3, N4⟩ := mn3_fv hr.f hg.f hb.f
  have kM : fv (mx3 r g b) = 0 ∨ 1 / 2 ^ 81 ≤ fv (mx3 r g b) := by rcases M4 with z | z | z <;> rw [z] <;> assumption
  have kN : fv (mn3 r g b) = 0 ∨ 1 / 2 ^ 81 ≤ fv (mn3 r g b) := by rcases N4 with z | z | z <;> rw [z] <;> assumption
  have M1' : fv (mx3 r g b) ≤ 1 := by rcases M4 with z | z | z <;> rw [z] <;> assumption
  have N0 : 0 ≤ fv (mn3 r g b) := by grind
  have gr : greyF r' g' b' = greyF r g b := by
    rw [grey_fv hr.f hg.f hb.f, grey_fv hr.f' hg.f' hb.f']
    by_cases z : fv (mn3 r g b) = fv (mx3 r g b)
    · rw [decide_eq_true z, decide_eq_true ((Sh.eq hN hM).mpr z)]
    · rw [decide_eq_false z, decide_eq_false (fun y => z ((Sh.eq hN hM).mp y))]
  have hgr := grey_fv hr.f hg.f hb.f
  unfold toL at hdark
  -- the lightness
  have sS := Sh.add hM hN (by grind) (by grind) (Off.of (by grind)) hn
  have rS := Rd_add hM.f hN.f
  have S0 : fv (Float64.add (mx3 r g b) (mn3 r g b)) = 0 ∨ 1 / 2 ^ 81 ≤ fv (Float64.add (mx3 r g b) (mn3 r g b)) := by
    by_cases z : fv (mx3 r g b) + fv (mn3 r g b) = 0
    · left; rw [z] at rS; exact rS.exact sS.f Rp0
    · right; exact rS.ge sS.f (Rp_inv (by decide)) (by grind)
  have S2 := rS.le sS.f (f := 2) (by rw [← k2.2]; exact Rp_fv k2.1) (by grind)
  have sL : Sh n (litF (mx3 r g b) (mn3 r g b)) (litF (mx3 r' g' b') (mn3 r' g' b')) := by
    unfold litF
    have r1' := Rd_div sS.f k2.1 (by rw [k2.2]; decide)
    have r2' := Rd_div sS.f' k2.1 (by rw [k2.2]; decide)
    rw [k2.2] at r1' r2'
    rw [sS.e, show fv (Float64.add (mx3 r g b) (mn3 r g b)) / 2 ^ n / 2 = fv (Float64.add (mx3 r g b) (mn3 r g b)) / 2 / 2 ^ n by grind] at r2'
    exact Sh.of r1' r2' (by grind) (by grind) (Off.of (by grind)) hn
  have hdark' : fv (litF (mx3 r' g' b') (mn3 r' g' b')) ≤ 1/2 := by
    obtain ⟨i0, i1⟩ := inv_bd n
    rw [sL.e, div_eq]
    have l0 : 0 ≤ fv (litF (mx3 r g b) (mn3 r g b)) := by
      have r1' := Rd_div sS.f k2.1 (by rw [k2.2]; decide)
      rw [k2.2] at r1'
      exact r1'.ge sL.f Rp0 (by grind)
    have := mulb (a := fv (litF (mx3 r g b) (mn3 r g b))) (d := 1/2) hdark (by grind) (Rat.le_of_lt i0) i1
    grind
  by_cases z : fv (mn3 r g b) = fv (mx3 r g b)
  · have g1' : greyF r g b = true := by rw [hgr]; simpa using z
    have eH : toH r g b = 0 := by unfold toH; rw [if_pos g1']
    have eH' : toH r' g' b' = 0 := by unfold toH; rw [gr, if_pos g1']
    have eS : toS r g b = 0 := by unfold toS; rw [if_pos g1']
    have eS' : toS r' g' b' = 0 := by unfold toS; rw [gr, if_pos g1']
    exact ⟨by rw [eH]; exact fv0.1, by rw [eH']; exact fv0.1, by rw [eH, eH'], sL, by rw [eS]; exact fv0.1, by rw [eS']; exact fv0.1, by rw [eS, eS']⟩
  have g0' : greyF r g b = false := by rw [hgr]; exact decide_eq_false z
  obtain ⟨mb, db⟩ := hbig z
  have hlt : fv (mn3 r g b) < fv (mx3 r g b) := by grind
  have sP := Sh.sub hM hN (by grind) (by grind) (Off.of (by grind)) hn
  obtain ⟨_, P0, _⟩ := range_pos hM.f hN.f hlt (by grind)
  have PS : fv (Float64.sub (mx3 r g b) (mn3 r g b)) ≤ fv (Float64.add (mx3 r g b) (mn3 r g b)) := (Rd_sub hM.f hN.f).mono rS sP.f sS.f (by grind)
  have Sp : 0 < fv (Float64.add (mx3 r g b) (mn3 r g b)) := by grind
  have hneS : ¬ fv (Float64.add (mx3 r g b) (mn3 r g b)) = 0 := by grind
  -- the saturation
  have eS : toS r g b = Float64.div (Float64.sub (mx3 r g b) (mn3 r g b)) (Float64.add (mx3 r g b) (mn3 r g b)) := by
    unfold toS satF leF
    rw [g0', if_neg (by decide), cmp_le sL.f kh.1, kh.2, if_pos (by simpa using hdark)]
  have eS' : toS r' g' b' = Float64.div (Float64.sub (mx3 r' g' b') (mn3 r' g' b')) (Float64.add (mx3 r' g' b') (mn3 r' g' b')) := by
    unfold toS satF leF
    rw [gr, g0', if_neg (by decide), cmp_le sL.f' kh.1, kh.2, if_pos (by simpa using hdark')]
  have eqS : fv (Float64.sub (mx3 r g b) (mn3 r g b)) / fv (Float64.add (mx3 r g b) (mn3 r g b)) * fv (Float64.add (mx3 r g b) (mn3 r g b)) = fv (Float64.sub (mx3 r g b) (mn3 r g b)) := Rat.div_mul_cancel hneS
  have q0 : 0 ≤ fv (Float64.sub (mx3 r g b) (mn3 r g b)) / fv (Float64.add (mx3 r g b) (mn3 r g b)) := Rat.le_of_mul_le_mul_right (c := fv (Float64.add (mx3 r g b) (mn3 r g b))) (by grind) Sp
  have q1 : fv (Float64.sub (mx3 r g b) (mn3 r g b)) / fv (Float64.add (mx3 r g b) (mn3 r g b)) ≤ 1 := Rat.le_of_mul_le_mul_right (c := fv (Float64.add (mx3 r g b) (mn3 r g b))) (by grind) Sp
  obtain ⟨fS, fS', hS⟩ := Sh.div sP sS hneS (by grind) (by grind)
  -- the hue
  have XP : ∀ c, FF c → fv (mn3 r g b) ≤ fv c → fv c ≤ fv (mx3 r g b) → fv (Float64.sub (mx3 r g b) c) ≤ fv (Float64.sub (mx3 r g b) (mn3 r g b)) := fun c fc c1 c2 => by
    have fX := ((Rd_sub hM.f fc).err2 (by grind) (by grind)).1
    exact (Rd_sub hM.f fc).mono (Rd_sub hM.f hN.f) fX sP.f (by grind)
  obtain ⟨cr1, cr2, cr3, cr4, cr5⟩ := rc_sh (r := r) (r' := r') hn hM hr sP P0 r0 M1 (XP r hr.f N1 M1) mb M1'
  obtain ⟨cg1, cg2, cg3, cg4, cg5⟩ := rc_sh (r := g) (r' := g') hn hM hg sP P0 g0 M2 (XP g hg.f N2 M2) mb M1'
  obtain ⟨cb1, cb2, cb3, cb4, cb5⟩ := rc_sh (r := b) (r' := b') hn hM hb sP P0 b0 M3 (XP b hb.f N3 M3) mb M1'
  have hh : FF (hue0 (mx3 r g b) (mn3 r g b) r g b) ∧ FF (hue0 (mx3 r' g' b') (mn3 r' g' b') r' g' b') ∧ fv (hue0 (mx3 r' g' b') (mn3 r' g' b') r' g' b') = fv (hue0 (mx3 r g b) (mn3 r g b) r g b) ∧ -8 ≤ fv (hue0 (mx3 r g b) (mn3 r g b) r g b) ∧ fv (hue0 (mx3 r g b) (mn3 r g b) r g b) ≤ 8 := by
    unfold hue0
    rw [cmp_eq hr.f hM.f, cmp_eq hr.f' hM.f', cmp_eq hg.f hM.f, cmp_eq hg.f' hM.f']
    by_cases z1 : fv r = fv (mx3 r g b)
    · simp only [decide_eq_true z1, decide_eq_true ((Sh.eq hr hM).mpr z1), if_true]
      have a := Rd_sub cb1 cg1
      have a' := Rd_sub cb2 cg2
      rw [cb3, cg3] at a'
      obtain ⟨f, p, q⟩ := a.err8 (by grind) (by grind)
      have f' := (a'.err8 (by grind) (by grind)).1
      exact ⟨f, f', Rd.same a a' f f', by grind, by grind⟩
    · simp only [decide_eq_false z1, decide_eq_false (fun y => z1 ((Sh.eq hr hM).mp y)), Bool.false_eq_true, if_false]
      by_cases z2 : fv g = fv (mx3 r g b)
      · simp only [decide_eq_true z2, decide_eq_true ((Sh.eq hg hM).mpr z2), if_true]
        have a := Rd_add k2.1 cr1
        have a' := Rd_add k2.1 cr2
        rw [cr3] at a'
        rw [k2.2] at a a'
        obtain ⟨f, p, q⟩ := a.err8 (by grind) (by grind)
        have f' := (a'.err8 (by grind) (by grind)).1
        have e := Rd.same a a' f f'
        have c := Rd_sub f cb1
        have c' := Rd_sub f' cb2
        rw [e, cb3] at c'
        obtain ⟨k, p', q'⟩ := c.err8 (by grind) (by grind)
        have k' := (c'.err8 (by grind) (by grind)).1
        exact ⟨k, k', Rd.same c c' k k', by grind, by grind⟩
      · simp only [decide_eq_false z2, decide_eq_false (fun y => z2 ((Sh.eq hg hM).mp y)), Bool.false_eq_true, if_false]
        have a := Rd_add k4.1 cg1
        have a' := Rd_add k4.1 cg2
        rw [cg3] at a'
        rw [k4.2] at a a'
        obtain ⟨f, p, q⟩ := a.err8 (by grind) (by grind)
        have f' := (a'.err8 (by grind) (by grind)).1
        have e := Rd.same a a' f f'
        have c := Rd_sub f cr1
        have c' := Rd_sub f' cr2
        rw [e, cr3] at c'
        obtain ⟨k, p', q'⟩ := c.err8 (by grind) (by grind)
        have k' := (c'.err8 (by grind) (by grind)).1
        exact ⟨k, k', Rd.same c c' k k', by grind, by grind⟩
  obtain ⟨h1, h2, h3, h4, h5⟩ := hh
  have eH : toH r g b = mod1 (Float64.div (hue0 (mx3 r g b) (mn3 r g b) r g b) 4618441417868443648) := by unfold toH hueF; rw [g0', if_neg (by decide)]
  have eH' : toH r' g' b' = mod1 (Float64.div (hue0 (mx3 r' g' b') (mn3 r' g' b') r' g' b') 4618441417868443648) := by unfold toH hueF; rw [gr, g0', if_neg (by decide)]
  have a := Rd_div h1 k6.1 (by rw [k6.2]; decide)
  have a' := Rd_div h2 k6.1 (by rw [k6.2]; decide)
  rw [h3] at a'
  rw [k6.2] at a a'
  have f := (a.err8 (by grind) (by grind)).1
  have f' := (a'.err8 (by grind) (by grind)).1
  obtain ⟨m1, m2, m3⟩ := mod1_same f f' (Rd.same a a' f f')
  exact ⟨by rw [eH]; exact m1, by rw [eH']; exact m2, by rw [eH, eH']; exact m3, sL, by rw [eS]; exact fS, by rw [eS']; exact fS', by rw [eS, eS']; exact hS⟩
end Mine

end
section
open PySem PySem.Float64
namespace Mine

theorem Rp_down9 {f : Rat} {n : Nat} (h : Rp f) (h0 : f = 0 ∨ 1 / 2 ^ 99 ≤ f) (hn : n ≤ 900) : Rp (f / 2 ^ n) := by
  rcases h0 with z | z
  · rw [z, show (0 : Rat) / 2 ^ n = 0 by simp [Rat.div_def]]; exact Rp0
  obtain ⟨m, k, hm, e⟩ := h
  have hk : n ≤ k := by
    rcases Nat.lt_or_ge k n with q | q
    · exfalso
      have a := Rat.mul_le_mul_of_nonneg_right z (Rat.le_of_lt S_pos)
      rw [E_inv (by decide), e] at a
      have m1 : (m : Rat) ≤ ((2 ^ 53 : Nat) : Rat) := by
        have := icast_le (show m ≤ ((2 ^ 53 : Nat) : Int) by omega)
        rwa [Rat.intCast_natCast] at this
      have kn : (0 : Rat) ≤ ((2 ^ k : Nat) : Rat) := Rat.natCast_nonneg
      have b := Rat.mul_le_mul_of_nonneg_right m1 kn
      rw [← Rat.natCast_mul] at b
      have c := Rat.natCast_le_natCast.mp (Rat.le_trans a b)
      have d : 2 ^ 53 * 2 ^ k < 2 ^ (1020 - 99 + 54) := by
        rw [← Nat.pow_add]
        exact Nat.pow_lt_pow_right (by decide) (by omega)
      exact absurd c (Nat.not_le.mpr d)
    · exact q
  refine ⟨m, k - n, hm, ?_⟩
  have e2 : 2 ^ k = 2 ^ (k - n) * 2 ^ n := by rw [← Nat.pow_add, show k - n + n = k by omega]
  rw [e2, Rat.natCast_mul, pow_cast n] at e
  have := pow_ne n
  generalize ((2 ^ (k - n) : Nat) : Rat) = z' at *
  generalize (2 : Rat) ^ n = y at *
  generalize (S : Rat) = w at *
  grind
theorem hv9 {x : UInt64} {n : Nat} (f : FF x) (h0 : fv x = 0 ∨ 1 / 2 ^ 99 ≤ fv x) (h1 : fv x ≤ 1) (hn : n ≤ 900) : Sh n x (hv x n) := by
  obtain ⟨fp, ep⟩ := pow_int hn
  obtain ⟨i0, i1⟩ := inv_bd n
  have x0 : 0 ≤ fv x := by grind
  unfold hv
  have r := Rd_div f fp (by rw [ep]; exact pow_ne n)
  rw [ep] at r
  have b : 0 ≤ fv x / 2 ^ n ∧ fv x / 2 ^ n ≤ 1 := by
    rw [div_eq]
    have := mulb (a := fv x) (d := 1) h1 (by grind) (Rat.le_of_lt i0) i1
    exact ⟨Rat.mul_nonneg x0 (Rat.le_of_lt i0), by grind⟩
  have f' := (r.err1 (by grind) b.2).1
  exact ⟨f, f', r.exact f' (Rp_down9 (Rp_fv f) h0 hn)⟩

theorem x_ok {h : UInt64} (f : FF h) (h0 : fv h = 0 ∨ 1 / 2 ^ 12 ≤ fv h) (h1 : fv h < 1) :
    (FF (Float64.add h 4599676419421066581) ∧ (fv (mod1 (Float64.add h 4599676419421066581)) = 0 ∨ 1 / 2 ^ 54 ≤ fv (mod1 (Float64.add h 4599676419421066581)))) ∧ (fv (mod1 h) = 0 ∨ 1 / 2 ^ 54 ≤ fv (mod1 h)) ∧
    (FF (Float64.sub h 4599676419421066581) ∧ (fv (mod1 (Float64.sub h 4599676419421066581)) = 0 ∨ 1 / 2 ^ 54 ≤ fv (mod1 (Float64.sub h 4599676419421066581)))) := by
  have hh0 : 0 ≤ fv h := by grind
  obtain ⟨⟨fa, a1, a2⟩, fc, c1, c2⟩ := third_err f hh0 (by grind)
  refine ⟨⟨fa, ?_⟩, ?_, fc, ?_⟩
  · by_cases z : fv (Float64.add h 4599676419421066581) < 1
    · rw [mod1_in fa (by grind) z]; right; grind
    · rw [mod1_up fa (by grind) (by grind)]
      have g := grid_one (Rp_fv fa) (by grind)
      have := (Gd.sub g Gd_one).tiny
      grind
  · rw [mod1_in f hh0 h1]; grind
  · by_cases z : fv (Float64.sub h 4599676419421066581) < 0
    · have := mod1_dn fc (by grind) z
      right; grind
    · rw [mod1_in fc (by grind) (by grind)]
      have g := grid_Rp (j := 2) (by decide) (Rp_fv f) (by rw [show (2 : Rat) ^ 2 = 4 by decide +kernel]; grind)
      have gT : Gd 54 (6004799503160661 / 2 ^ 54) := ⟨6004799503160661, by decide +kernel⟩
      have r := Rd_sub f k3i.1
      rw [k3i.2] at r
      have := (Gd.round (k := 54) (by decide) r fc (Gd.sub g gT)).tiny
      grind

/-- what law 10 asks of a triple -/
structure P10 (top c hue light part : Int) (l R G B : UInt64) (d0 d1 d2 : Int) : Prop where
  ok : HlsOk R G B
  fl : FF (Float64.mul (Float64.ofInt top) (toL R G B))
  el : roundF (Float64.mul (Float64.ofInt top) (toL R G B)) = light
  fh : FF (Float64.mul (Float64.ofInt top) (toH R G B))
  fs : FF (Float64.mul (Float64.ofInt top) (toS R G B))
  eh : 0 < light * part → roundF (Float64.mul (Float64.ofInt top) (toH R G B)) = hue
  es : 0 < light * part → roundF (Float64.mul (Float64.ofInt top) (toS R G B)) = part
  due : ∀ R' G' B', Sh 900 R R' → Sh 900 G G' → Sh 900 B B' → (FF (Float64.mul (Float64.ofInt (c * 2 ^ 900)) R') ∧ roundF (Float64.mul (Float64.ofInt (c * 2 ^ 900)) R') = d0) ∧ (FF (Float64.mul (Float64.ofInt (c * 2 ^ 900)) G') ∧ roundF (Float64.mul (Float64.ofInt (c * 2 ^ 900)) G') = d1) ∧ (FF (Float64.mul (Float64.ofInt (c * 2 ^ 900)) B') ∧ roundF (Float64.mul (Float64.ofInt (c * 2 ^ 900)) B') = d2)
/-- and of its halves -/
structure H10 (n : Nat) (R G B R' G' B' : UInt64) : Prop where
  ok : HlsOk R' G' B'
  r : (Float64.cmp R' (hv R n) == some .eq) = true
  g : (Float64.cmp G' (hv G n) == some .eq) = true
  b : (Float64.cmp B' (hv B n) == some .eq) = true
  h : (Float64.cmp (toH R' G' B') (toH R G B) == some .eq) = true
  l : (Float64.cmp (toL R' G' B') (hv (toL R G B) n) == some .eq) = true
  s : (Float64.cmp (toS R' G' B') (toS R G B) == some .eq) = true
  sr : Sh n R R'
  sg : Sh n G G'
  sb : Sh n B B'
theorem ceqv {x y : UInt64} (fx : FF x) (fy : FF y) (h : fv x = fv y) : (Float64.cmp x y == some .eq) = true := by rw [cmp_eq fx fy]; simpa using h

theorem n10h {l l' s h : UInt64} {n : Nat} (hn : n ≤ 900) (fh : FF h) (hh0 : fv h = 0 ∨ 1 / 2 ^ 12 ≤ fv h) (hh1 : fv h < 1) (fs : FF s) (hl : Sh n l l') (l0 : fv l = 0 ∨ 1 / 2 ^ 13 ≤ fv l) (l1 : fv l ≤ 1/2) (s0 : fv s = 0 ∨ 1 / 2 ^ 13 ≤ fv s) (s1 : fv s ≤ 1) {R G B R' G' B' : UInt64}
    (eR : R = hlsC (Float64.add h 4599676419421066581) l s) (eG : G = hlsC h l s) (eB : B = hlsC (Float64.sub h 4599676419421066581) l s) (eR' : R' = hlsC (Float64.add h 4599676419421066581) l' s) (eG' : G' = hlsC h l' s) (eB' : B' = hlsC (Float64.sub h 4599676419421066581) l' s)
    (r1 : fv R ≤ 1) (g1 : fv G ≤ 1) (b1 : fv B ≤ 1)
    (hdark : fv (toL R G B) ≤ 1/2) (hlok : fv (toL R G B) = 0 ∨ 1 / 2 ^ 99 ≤ fv (toL R G B)) (hbig : ¬ fv (mn3 R G B) = fv (mx3 R G B) → 1 / 2 ^ 14 ≤ fv (mx3 R G B) ∧ 1 / 2 ^ 40 ≤ fv (mx3 R G B) - fv (mn3 R G B)) : H10 n R G B R' G' B' := by
  obtain ⟨⟨fa, xa⟩, xb, fc, xc⟩ := x_ok fh hh0 hh1
  obtain ⟨sR, kR⟩ := hlsC_sh hn fa fs hl l0 l1 s0 s1 xa
  obtain ⟨sG, kG⟩ := hlsC_sh hn fh fs hl l0 l1 s0 s1 xb
  obtain ⟨sB, kB⟩ := hlsC_sh hn fc fs hl l0 l1 s0 s1 xc
  rw [← eR, ← eR'] at sR
  rw [← eG, ← eG'] at sG
  rw [← eB, ← eB'] at sB
  rw [← eR] at kR
  rw [← eG] at kG
  rw [← eB] at kB
  clear eR eG eB eR' eG' eB'
  have T := told_sh hn sR sG sB kR kG kB r1 g1 b1 hdark hbig
  have up : ∀ x x' : UInt64, Sh n x x' → Okc x → fv x ≤ 1 → (Float64.cmp x' (hv x n) == some .eq) = true ∧ 0 ≤ fv x' ∧ fv x' ≤ 1 := fun x x' h k q => by
    unfold Okc at k
    have := hv9 h.f (by grind) q hn
    refine ⟨ceqv h.f' this.f' (by rw [h.e, this.e]), ?_⟩
    obtain ⟨i0, i1⟩ := inv_bd n
    rw [h.e, div_eq]
    have x0 : 0 ≤ fv x := by grind
    have := mulb (a := fv x) (d := 1) q (by grind) (Rat.le_of_lt i0) i1
    exact ⟨Rat.mul_nonneg x0 (Rat.le_of_lt i0), by grind⟩
  obtain ⟨u1, u2, u3⟩ := up _ _ sR kR r1
  obtain ⟨v1, v2, v3⟩ := up _ _ sG kG g1
  obtain ⟨w1, w2, w3⟩ := up _ _ sB kB b1
  have hL := hv9 T.l.f hlok (by grind) hn
  exact ⟨HlsOk.of sR.f' sG.f' sB.f' u2 u3 v2 v3 w2 w3, u1, v1, w1, ceqv T.fh' T.fh T.h, ceqv T.l.f' hL.f' (by rw [T.l.e, hL.e]), ceqv T.fs' T.fs T.s, sR, sG, sB⟩
end Mine

end
section
open PySem PySem.Float64
namespace Mine

theorem div_zero {b : Int} (h : 0 < b) : divI 0 b = 0 := by
  unfold divI
  have hb : ¬ b < 0 := by omega
  rw [show (decide ((0 : Int) < 0) != decide (b < 0)) = false by simp [hb], show (0 : Int).natAbs = 0 from rfl]
  obtain ⟨t, e, hle, hinf, hn⟩ := ofFrac_right (neg := false) (n := 0) (d := b.natAbs) (W := 0) (D := 1) (by omega) (by simp) (by decide)
  rw [e]
  have ht : t ≠ infMag := fun z => by
    have := hinf.mp z
    have p : 0 < (2 ^ 54 - 1) * 2 ^ 2045 := Nat.mul_pos (by decide) (Nat.two_pow_pos _)
    omega
  have n0 := (hn (by omega) 0).1
  have : t = 0 := by
    rcases Nat.eq_zero_or_pos t with z | z
    · exact z
    · have v := V_lt z
      rw [V_zero] at v n0
      unfold Float64.dist at n0
      omega
  rw [this]; decide +kernel
theorem ramp_nil {m1 m2 x : UInt64} (f1 : FF m1) (f2 : FF m2) (fx : FF x) (x0 : fv x = 0) (b1 : -1 ≤ fv m1 ∧ fv m1 ≤ 2) (b2 : -1 ≤ fv m2 ∧ fv m2 ≤ 2) : fv (Float64.add m1 (Float64.mul (Float64.mul (Float64.sub m2 m1) x) 4618441417868443648)) = fv m1 := by
  obtain ⟨fd, _⟩ := (Rd_sub f2 f1).err8 (by grind) (by grind)
  have r2 := Rd_mul fd fx
  rw [x0, show ∀ q : Rat, q * 0 = 0 from fun q => by grind] at r2
  obtain ⟨g2, _⟩ := r2.err1 (by decide) (by decide)
  have z2 := r2.exact g2 Rp0
  have r3 := Rd_mul g2 k6.1
  rw [z2, show (0 : Rat) * fv 4618441417868443648 = 0 by grind] at r3
  obtain ⟨g3, _⟩ := r3.err1 (by decide) (by decide)
  have z3 := r3.exact g3 Rp0
  have r4 := Rd_add f1 g3
  rw [z3, show fv m1 + 0 = fv m1 by grind] at r4
  exact r4.exact (r4.err2 (by grind) (by grind)).1 (Rp_fv f1)
theorem m_le {l s : UInt64} (fl : FF l) (fs : FF s) (l0 : 0 ≤ fv l) (l1 : fv l ≤ 1/2) (s0 : 0 ≤ fv s) (s1 : fv s ≤ 1) : fv (hlsM1 l s) ≤ fv (hlsM2 l s) := by
  obtain ⟨⟨f2, _⟩, f1, _⟩ := hlsM_err fl fs l0 (by grind) s0 s1
  have two : Rp 2 := by rw [← k2.2]; exact Rp_fv k2.1
  have lo : fv l ≤ fv (hlsM2 l s) ∧ fv (hlsM2 l s) ≤ 2 := by
    have e : hlsM2 l s = Float64.mul l (Float64.add 4607182418800017408 s) := by
      unfold hlsM2 leF; rw [cmp_le fl kh.1, kh.2, if_pos (by simpa using l1)]
    rw [e] at f2 ⊢
    have ra := Rd_add fv1.1 fs
    rw [fv1.2] at ra
    obtain ⟨ga, _⟩ := ra.err2 (by grind) (by grind)
    have a1 := ra.ge ga one_Rp (by grind)
    have a2 := ra.le ga two (by grind)
    have u := Rat.mul_le_mul_of_nonneg_left a1 l0
    have v := Rat.mul_le_mul_of_nonneg_left a2 l0
    exact ⟨(Rd_mul fl ga).ge f2 (Rp_fv fl) (by grind), (Rd_mul fl ga).le f2 two (by grind)⟩
  have d2 := Rd_mul k2.1 fl
  rw [k2.2] at d2
  obtain ⟨g2, _⟩ := d2.err2 (by grind) (by grind)
  have e2 := d2.exact g2 (dblRp (Rp_fv fl))
  have r := Rd_sub g2 f2
  rw [e2] at r
  exact r.le f1 (Rp_fv f2) (by grind)

theorem frac_ok {t a : Int} (h1 : 1 ≤ t) (h2 : t ≤ 4092) (h0 : 0 ≤ a) (ha : a ≤ t) : fv (divI a t) = 0 ∨ 1 / 2 ^ 12 ≤ fv (divI a t) := by
  obtain ⟨ρ, e0, p0, p1, f, e1, e2, q0, q1⟩ := frac_err h1 h0 ha
  rcases Int.lt_or_le 0 a with z | z
  · right
    have r := Rd_frac (a := a) (b := t) (by omega)
    refine r.ge f (Rp_inv (by decide)) ?_
    have tp := ipos (show 0 < t by omega)
    have e : (a : Rat) / t * t = a := Rat.div_mul_cancel (by grind)
    have a1 : (1 : Rat) ≤ a := by have := icast_le (show 1 ≤ a by omega); exact this
    have t1 : (t : Rat) ≤ 4096 := by have := icast_le (show t ≤ 4096 by omega); exact this
    apply Rat.le_of_mul_le_mul_right (c := (t : Rat)) _ tp
    rw [e, show (2 : Rat) ^ 12 = 4096 by decide +kernel]; grind
  · left
    have : a = 0 := by omega
    rw [this]; exact (frac_zero h1).2

set_option maxHeartbeats 4000000 in
theorem n10 {top q hue light part : Int} (ht1 : 12 ≤ top) (ht2 : top ≤ 4092) (hq : 1 ≤ q) (hc2 : top * top * top * q ≤ 2 ^ 41) (hh : 0 ≤ hue ∧ hue < top) (hl : 0 ≤ light ∧ 2 * light ≤ top - 2) (hp : 0 ≤ part ∧ part ≤ top) {R G B : UInt64}
    (eR : R = hlsC (Float64.add (divI hue top) 4599676419421066581) (divI light top) (divI part top)) (eG : G = hlsC (divI hue top) (divI light top) (divI part top)) (eB : B = hlsC (Float64.sub (divI hue top) 4599676419421066581) (divI light top) (divI part top)) :
    P10 top (top * top * top * q) hue light part (divI light top) R G B
      (q * light * (top * top + part * liftI top (6 * hue - 0) (0 - 6 * hue))) (q * light * (top * top + part * liftI top (6 * hue - 2 * top) (2 * top - 6 * hue))) (q * light * (top * top + part * liftI top (6 * hue - 4 * top) (4 * top - 6 * hue))) ∧
    ∀ (n : Nat) (R' G' B' : UInt64), n ≤ 900 → R' = hlsC (Float64.add (divI hue top) 4599676419421066581) (hv (divI light top) n) (divI part top) → G' = hlsC (divI hue top) (hv (divI light top) n) (divI part top) → B' = hlsC (Float64.sub (divI hue top) 4599676419421066581) (hv (divI light top) n) (divI part top) → H10 n R G B R' G' B' := by
  have tp := ipos (show 0 < top by omega)
  obtain ⟨ρl, l1, l2, l3, fl, l4, l5, l6, l7⟩ := frac_err (t := top) (a := light) (by omega) hl.1 (by omega)
  obtain ⟨ρs, s1, s2, s3, fs, s4, s5, s6, s7⟩ := frac_err (t := top) (a := part) (by omega) hp.1 hp.2
  have okl := frac_ok (t := top) (a := light) (by omega) ht2 hl.1 (by omega)
  have oks := frac_ok (t := top) (a := part) (by omega) ht2 hp.1 hp.2
  have okh := frac_ok (t := top) (a := hue) (by omega) ht2 hh.1 (by omega)
  have tq : (top : Rat) ≤ 4092 := by have := icast_le ht2; exact this
  have ρle : ρl ≤ 1/2 - 1/4092 := by
    have := icast_le hl.2
    rw [Rat.intCast_mul, Rat.intCast_sub, ← l1] at this
    change (2 : Rat) * _ ≤ _ - (2 : Rat) at this
    apply Rat.le_of_mul_le_mul_right (c := (top : Rat)) _ tp
    grind
  have en : nearE ρl = ρl := by unfold nearE; rw [if_pos (by grind)]
  obtain ⟨f0, ⟨a1, a2⟩, ⟨f1, b1, b2⟩, f2, c1, c2⟩ := hue_frac (hue := hue) (turn := top) (by omega) (by omega) (by omega)
  have x01 : 0 ≤ (hue : Rat) / top ∧ (hue : Rat) / top ≤ 1 - 1/4092 := by
    have e : (hue : Rat) / top * top = hue := Rat.div_mul_cancel (by grind)
    have i0 := inn hh.1
    have i1 := icast_le (show hue ≤ top - 1 by omega)
    rw [Rat.intCast_sub, Rat.intCast_one] at i1
    exact ⟨Rat.le_of_mul_le_mul_right (c := (top : Rat)) (by grind) tp, Rat.le_of_mul_le_mul_right (c := (top : Rat)) (by rw [e]; grind) tp⟩
  have h1' : fv (divI hue top) < 1 := by grind
  have gR := hls_val' (x := (hue : Rat) / top + 1/3) (show 1 ≤ top by omega) (show 1 ≤ top by omega) ⟨hl.1, by omega⟩ hp l1 s1 f1 b1 b2
  have gG := hls_val' (x := (hue : Rat) / top) (show 1 ≤ top by omega) (show 1 ≤ top by omega) ⟨hl.1, by omega⟩ hp l1 s1 f0 (by grind) (by grind)
  have gB := hls_val' (x := (hue : Rat) / top - 1/3) (show 1 ≤ top by omega) (show 1 ≤ top by omega) ⟨hl.1, by omega⟩ hp l1 s1 f2 c1 c2
  have nR := hlsC_nonneg f1 fl fs l6 l7 s6 s7
  have nG := hlsC_nonneg f0 fl fs l6 l7 s6 s7
  have nB := hlsC_nonneg f2 fl fs l6 l7 s6 s7
  have flat : ¬ 0 < light * part → ∀ a, FF a → fv (hlsC a (divI light top) (divI part top)) = fv (divI light top) := by
    intro z a fa
    rcases Int.lt_or_le 0 light with p | p
    · have : part = 0 := by
        rcases Int.lt_or_le 0 part with y | y
        · exact absurd (Int.mul_pos p y) z
        · omega
      rw [this, hlsC_zero (show 1 ≤ top by omega)]
    · have lz : light = 0 := by omega
      have l0 : fv (divI light top) = 0 := by rw [lz]; exact (frac_zero (show 1 ≤ top by omega)).2
      rw [l0]; exact hlsC_black fa fl fs l0 s6 s7
  have flR := fun z => flat z _ f1
  have flG := fun z => flat z _ f0
  have flB := fun z => flat z _ f2
  -- red: no hue
  have red : hue = 0 → 0 < light * part → fv R = fv (hlsM2 (divI light top) (divI part top)) ∧ fv G = fv (hlsM1 (divI light top) (divI part top)) ∧ fv B = fv (hlsM1 (divI light top) (divI part top)) ∧ fv (hlsM1 (divI light top) (divI part top)) ≤ fv (hlsM2 (divI light top) (divI part top)) := by
    intro z pos
    have hz : divI hue top = 0 := by rw [z]; exact div_zero (by omega)
    have pp : 0 < part := by
      rcases Int.lt_or_le 0 part with y | y
      · exact y
      · have : part = 0 := by omega
        rw [this] at pos; simp at pos
    have sne : ¬ fv (divI part top) = 0 := by
      intro y
      have r := Rd_frac (a := part) (b := top) (by omega)
      rcases oks with q' | q'
      · have e : (part : Rat) / top * top = part := Rat.div_mul_cancel (by grind)
        have p1 : (1 : Rat) ≤ part := by have := icast_le (show 1 ≤ part by omega); exact this
        have lo := r.ge fs (Rp_inv (k := 12) (by decide)) (by
          apply Rat.le_of_mul_le_mul_right (c := (top : Rat)) _ tp
          rw [e, show (2 : Rat) ^ 12 = 4096 by decide +kernel]; grind)
        rw [y] at lo
        exact absurd lo (by decide +kernel)
      · rw [y] at q'
        exact absurd q' (by decide +kernel)
    have un : ∀ a, hlsC a (divI light top) (divI part top) = vF (hlsM1 (divI light top) (divI part top)) (hlsM2 (divI light top) (divI part top)) a := fun a => by
      unfold hlsC
      rw [cmp_eq fs fv0.1, fv0.2, if_neg (by simpa using sne)]
    obtain ⟨⟨g2, p2, q2⟩, g1, p1, q1⟩ := hlsM_err fl fs l6 l7 s6 s7
    rw [eR, eG, eB, un, un, un, hz]
    unfold vF
    have ft : FF (Float64.add 0 4599676419421066581) := by rw [hz] at f1; exact f1
    have fb' : FF (Float64.sub 0 4599676419421066581) := by rw [hz] at f2; exact f2
    have z0 := fv0
    obtain ⟨⟨_, t1, t2⟩, _⟩ := third_err z0.1 (by rw [z0.2]; decide) (by rw [z0.2]; decide)
    rw [z0.2] at t1 t2
    have mt := mod1_in ft (by grind) (by grind)
    have m0 := mod1_in z0.1 (by rw [z0.2]; decide) (by rw [z0.2]; decide)
    rw [z0.2] at m0
    rw [vT_m2 (mod1_spec ft).1 (by grind) (by grind), vT_m1 (mod1_spec fb').1 (by rw [third_back]; decide +kernel)]
    refine ⟨rfl, ?_, rfl, ?_⟩
    · rw [vT_eq (mod1_spec z0.1).1, if_pos (by rw [m0]; decide +kernel)]
      have nb := nearE_bd l6 l7
      have w0 := Rat.mul_nonneg s6 nb.1
      have w1 := Rat.mul_le_mul_of_nonneg_right s7 nb.1
      exact ramp_nil g1 g2 (mod1_spec z0.1).1 m0 (by constructor <;> grind) (by constructor <;> grind)
    · exact m_le fl fs l6 (by grind) s6 s7
  -- the true colour
  rw [en] at gR gG gB
  rw [← eR] at gR nR flR
  rw [← eG] at gG nG flG
  rw [← eB] at gB nB flB
  have w0 := Rat.mul_nonneg s2 l2
  have w1 := Rat.mul_le_mul_of_nonneg_right s3 l2
  have hx : (hue : Rat) / top * top = hue := Rat.div_mul_cancel (by grind)
  have xR := cvP_bd ((hue : Rat) / top + 1/3)
  have xG := cvP_bd ((hue : Rat) / top)
  have xB := cvP_bd ((hue : Rat) / top - 1/3)
  have cb : ∀ c : Rat, 0 ≤ c → c ≤ 1 → 0 ≤ (ρl - ρs * ρl) + 2 * (ρs * ρl) * c ∧ (ρl - ρs * ρl) + 2 * (ρs * ρl) * c ≤ 1 - 2/4092 := fun c k0 k1 => by
    have a := Rat.mul_nonneg w0 k0
    have b := Rat.mul_le_mul_of_nonneg_left k1 w0
    exact ⟨by grind, by grind⟩
  have bR := cb _ xR.1 xR.2
  have bG := cb _ xG.1 xG.2
  have bB := cb _ xB.1 xB.2
  have R1 : fv R ≤ 1 := by have := gR.2.1; grind
  have G1 : fv G ≤ 1 := by have := gG.2.1; grind
  have B1 : fv B ≤ 1 := by have := gB.2.1; grind
  obtain ⟨fM, M1, M2, M3, M4⟩ := mx3_fv gR.1 gG.1 gB.1
  obtain ⟨fN, m1, m2, m3, m4⟩ := mn3_fv gR.1 gG.1 gB.1
  obtain ⟨eM, eN⟩ := ends_near (x0 := (hue : Rat) / top) (N0 := ρl - ρs * ρl) (D0 := 2 * (ρs * ρl)) m1 M1 m2 M2 m3 M3 M4 m4 (by grind) gR.2.1 gR.2.2 gG.2.1 gG.2.2 gB.2.1 gB.2.2
  have MX : fv (mx3 R G B) ≤ 1 := by rcases M4 with z | z | z <;> rw [z] <;> assumption
  have MN : 0 ≤ fv (mn3 R G B) := by rcases m4 with z | z | z <;> rw [z] <;> assumption
  have hle : fv (mn3 R G B) ≤ fv (mx3 R G B) := Rat.le_trans m1 M1
  obtain ⟨fL, L1, L2, L3, L4⟩ := lit_err fM fN MN hle MX
  have tL1 : fv (toL R G B) - ρl ≤ 622 / 2^53 ∧ ρl - fv (toL R G B) ≤ 622 / 2^53 := by
    unfold toL; exact ⟨by grind, by grind⟩
  have okk : HlsOk R G B := HlsOk.of gR.1 gG.1 gB.1 nR R1 nG G1 nB B1
  have itx := int_exact (a := top) (by omega) (by omega)
  have t0 : (0 : Rat) ≤ top := Rat.le_of_lt tp
  have p49 : (4092 : Rat) ≤ 2 ^ 49 := by decide +kernel
  have n49 : (-2 ^ 49 : Rat) ≤ 0 := by decide +kernel
  -- positive facts
  have posf : 0 < light * part → 1/4092 ≤ ρl ∧ 1/4092 ≤ ρs ∧ 1 / 2^24 ≤ ρs * ρl := fun z => by
    have lp : 1 ≤ light := by
      rcases Int.lt_or_le 0 light with y | y
      · omega
      · have : light = 0 := by omega
        rw [this] at z; simp at z
    have pp : 1 ≤ part := by
      rcases Int.lt_or_le 0 part with y | y
      · omega
      · have : part = 0 := by omega
        rw [this] at z; simp at z
    have a := icast_le lp
    have b := icast_le pp
    rw [Rat.intCast_one, ← l1] at a
    rw [Rat.intCast_one, ← s1] at b
    have a' : 1/4092 ≤ ρl := Rat.le_of_mul_le_mul_right (c := (top : Rat)) (by grind) tp
    have b' : 1/4092 ≤ ρs := Rat.le_of_mul_le_mul_right (c := (top : Rat)) (by grind) tp
    have c := Rat.mul_le_mul_of_nonneg_right b' l2
    have d := Rat.mul_le_mul_of_nonneg_left a' (show (0 : Rat) ≤ 1/4092 by decide +kernel)
    have e : (1 / 2^24 : Rat) ≤ 1/4092 * (1/4092) := by decide +kernel
    exact ⟨a', b', by grind⟩
  have greyc : ¬ 0 < light * part → fv (mn3 R G B) = fv (mx3 R G B) := fun z => by
    have a := flR z
    have b := flG z
    have c := flB z
    rcases M4 with y | y | y <;> rcases m4 with y' | y' | y' <;> rw [y, y'] <;> grind
  have big : ¬ fv (mn3 R G B) = fv (mx3 R G B) → 1 / 2 ^ 14 ≤ fv (mx3 R G B) ∧ 1 / 2 ^ 40 ≤ fv (mx3 R G B) - fv (mn3 R G B) := fun z => by
    have pos : 0 < light * part := by
      rcases Int.lt_or_le 0 (light * part) with y | y
      · exact y
      · exact absurd (greyc (by omega)) z
    obtain ⟨a, b, c⟩ := posf pos
    exact ⟨by grind, by grind⟩
  have dark : fv (toL R G B) ≤ 1/2 := by grind
  have lok : fv (toL R G B) = 0 ∨ 1 / 2 ^ 99 ≤ fv (toL R G B) := by
    rcases Int.lt_or_le 0 light with y | y
    · right
      have a := icast_le (show 1 ≤ light by omega)
      rw [Rat.intCast_one, ← l1] at a
      have a' : 1/4092 ≤ ρl := Rat.le_of_mul_le_mul_right (c := (top : Rat)) (by grind) tp
      grind
    · left
      have lz : light = 0 := by omega
      have z : ¬ 0 < light * part := by rw [lz]; simp
      have l0 : fv (divI light top) = 0 := by rw [lz]; exact (frac_zero (show 1 ≤ top by omega)).2
      have a := flR z
      have b := flG z
      have c := flB z
      have hz : fv (mx3 R G B) = 0 := by rcases M4 with y | y | y <;> rw [y] <;> grind
      unfold toL
      grind
  refine ⟨?_, fun n R' G' B' hn e1 e2 e3 => ?_⟩
  rotate_left
  · have hl' := hv9 fl (n := n) (by rcases okl with y | y <;> grind) l7 hn
    exact n10h hn f0 okh h1' fs hl' (by rcases okl with y | y <;> grind) (by grind) (by rcases oks with y | y <;> grind) s7 eR eG eB e1 e2 e3 R1 G1 B1 dark lok big
  -- the saturation, the hue
  have tl := times_round (K := Float64.ofInt top) (x := toL R G B) (N := light) itx.1 fL (by
      rw [itx.2]
      have m := mulc (a := fv (toL R G B)) (b := ρl) tL1.1 tL1.2 t0 tq (by decide +kernel)
      have k : (622 / 2^53 * 4092 : Rat) ≤ 3/8 := by decide +kernel
      grind) (by
      rw [itx.2]
      have m := mulc (a := fv (toL R G B)) (b := ρl) tL1.1 tL1.2 t0 tq (by decide +kernel)
      have k : (622 / 2^53 * 4092 : Rat) ≤ 3/8 := by decide +kernel
      grind) (by
      rw [itx.2]
      have : 0 ≤ fv (toL R G B) := by rcases lok with y | y <;> grind
      have := Rat.mul_nonneg t0 this
      grind) (by
      rw [itx.2]
      have := Rat.mul_le_mul_of_nonneg_left (show fv (toL R G B) ≤ 1 by grind) t0
      grind)
  have hs : FF (toS R G B) ∧ 0 ≤ fv (toS R G B) ∧ fv (toS R G B) ≤ 1 ∧ (0 < light * part → fv (toS R G B) - ρs ≤ 1/2^20 ∧ ρs - fv (toS R G B) ≤ 1/2^20) := by
    unfold toS
    rw [grey_fv gR.1 gG.1 gB.1]
    by_cases z : fv (mn3 R G B) = fv (mx3 R G B)
    · rw [if_pos (by simpa using z)]
      have k0 := fv0
      refine ⟨k0.1, by rw [k0.2]; decide, by rw [k0.2]; decide, fun pos => ?_⟩
      exfalso
      obtain ⟨a, b, c⟩ := posf pos
      grind
    · rw [if_neg (by simpa using z)]
      have hlt : fv (mn3 R G B) < fv (mx3 R G B) := by grind
      obtain ⟨fS, S0, S1, S2, S3⟩ := sat_err fM fN MN hlt MX
      refine ⟨fS, S0, S1, fun pos => ?_⟩
      obtain ⟨a, b, c⟩ := posf pos
      have enl : nearE (fv (litF (mx3 R G B) (mn3 R G B))) = fv (litF (mx3 R G B) (mn3 R G B)) := by
        have dk : fv (litF (mx3 R G B) (mn3 R G B)) ≤ 1/2 := dark
        unfold nearE; rw [if_pos dk]
      rw [enl] at S2 S3
      have tl1 := tL1
      unfold toL at tl1
      generalize satF (mx3 R G B) (mn3 R G B) = sa at *
      generalize litF (mx3 R G B) (mn3 R G B) = li at *
      have m := mulc (a := fv li) (b := ρl) (x := fv sa) (c := 1) tl1.1 tl1.2 S0 S1 (by decide +kernel)
      have lp : 0 < ρl := by grind
      exact ⟨Rat.le_of_mul_le_mul_right (c := ρl) (by grind) lp, Rat.le_of_mul_le_mul_right (c := ρl) (by grind) lp⟩
  obtain ⟨fS, S0, S1, hS⟩ := hs
  have hH : FF (toH R G B) ∧ 0 ≤ fv (toH R G B) ∧ fv (toH R G B) ≤ 1 ∧ (0 < light * part → fv (toH R G B) - (hue : Rat) / top ≤ 1/2^19 ∧ (hue : Rat) / top - fv (toH R G B) ≤ 1/2^19) := by
    unfold toH
    rw [grey_fv gR.1 gG.1 gB.1]
    by_cases z : fv (mn3 R G B) = fv (mx3 R G B)
    · rw [if_pos (by simpa using z)]
      have k0 := fv0
      refine ⟨k0.1, by rw [k0.2]; decide, by rw [k0.2]; decide, fun pos => ?_⟩
      exfalso
      obtain ⟨a, b, c⟩ := posf pos
      grind
    · rw [if_neg (by simpa using z)]
      have hlt : fv (mn3 R G B) < fv (mx3 R G B) := by grind
      obtain ⟨_, fh, _, _, h0, h1, _⟩ := hueF_err fM fN gR.1 gG.1 gB.1 m1 M1 m2 M2 m3 M3 M4 m4 hlt (by grind)
      refine ⟨fh, h0, h1, fun pos => ?_⟩
      obtain ⟨a, b, c⟩ := posf pos
      by_cases hz : hue = 0
      · obtain ⟨z1, z2, z3, z4⟩ := red hz pos
        have eM' : fv (mx3 R G B) = fv R := by rcases M4 with y | y | y <;> grind
        have eN' : fv (mn3 R G B) = fv G := by rcases m4 with y | y | y <;> grind
        obtain ⟨_, e⟩ := hue_red fM fN gR.1 gG.1 gB.1 hlt (by grind) eM'.symm eN'.symm (by rw [eN', z2, z3])
        rw [e]
        have x0 : (hue : Rat) / top = 0 := by rw [hz, Rat.intCast_zero]; simp [Rat.div_def]
        rw [x0]
        exact ⟨by grind, by grind⟩
      · obtain ⟨_, _, _, k, k1, k2⟩ := hue_near (x0 := (hue : Rat) / top) (N0 := ρl - ρs * ρl) (D0 := 2 * (ρs * ρl)) (e := 620/2^53) (ε := 1 / 2^18) fM fN gR.1 gG.1 gB.1 m1 M1 m2 M2 m3 M3 M4 m4 hlt (by grind) (by grind) (by grind) (by decide +kernel) gR.2.1 gR.2.2 gG.2.1 gG.2.2 gB.2.1 gB.2.2
        have x1 : 1/4092 ≤ (hue : Rat) / top := by
          have a := icast_le (show 1 ≤ hue by omega)
          rw [Rat.intCast_one, ← hx] at a
          exact Rat.le_of_mul_le_mul_right (c := (top : Rat)) (by grind) tp
        have kz : k = 0 := by
          have a : (k : Rat) < ((1 : Int) : Rat) := by rw [Rat.intCast_one]; grind
          have b : ((-1 : Int) : Rat) < (k : Rat) := by rw [Rat.intCast_neg, Rat.intCast_one]; grind
          have a := Rat.intCast_lt_intCast.mp a
          have b := Rat.intCast_lt_intCast.mp b
          omega
        subst kz
        rw [Rat.intCast_zero] at k1 k2
        exact ⟨by grind, by grind⟩
  obtain ⟨fH, H0, H1, hHe⟩ := hH
  have fin1 : ∀ x : UInt64, FF x → 0 ≤ fv x → fv x ≤ 1 → FF (Float64.mul (Float64.ofInt top) x) := fun x f a b => by
    have e12 : (2 : Rat) ^ 12 = 4096 := by decide +kernel
    have u := Rat.mul_nonneg t0 a
    have v := Rat.mul_le_mul_of_nonneg_left b t0
    exact ((Rd_mul itx.1 f).errp 12 (by rw [itx.2, e12]; grind) (by rw [itx.2, e12]; grind)).1
  have near1 : ∀ (x : UInt64) (ρ : Rat) (N : Int), FF x → 0 ≤ fv x → fv x ≤ 1 → ρ * top = N → fv x - ρ ≤ 1/2^19 → ρ - fv x ≤ 1/2^19 → roundF (Float64.mul (Float64.ofInt top) x) = N := fun x ρ N f a b e d1 d2 => by
    have m := mulc d1 d2 t0 tq (by decide +kernel)
    have k : (1 / 2^19 * 4092 : Rat) ≤ 3/8 := by decide +kernel
    have u := Rat.mul_nonneg t0 a
    have v := Rat.mul_le_mul_of_nonneg_left b t0
    refine (times_round itx.1 f ?_ ?_ ?_ ?_).2
    · rw [itx.2, ← e]; grind
    · rw [itx.2, ← e]; grind
    · rw [itx.2]; grind
    · rw [itx.2]; grind
  have C0 : 0 < top * top * top * q := Int.mul_pos (Int.mul_pos (Int.mul_pos (by omega) (by omega)) (by omega)) (by omega)
  obtain ⟨fK, eK⟩ := mulpow_int (c := top * top * top * q) (n := 900) (by decide) (by omega) (by omega)
  have W1 : (0 : Rat) ≤ ((top * top * top * q : Int) : Rat) := inn (by omega)
  have W2 : ((top * top * top * q : Int) : Rat) ≤ 2 ^ 41 := by have := icast_le hc2; rwa [Rat.intCast_pow] at this
  have q0 : ((6 * hue - 0 : Int) : Rat) / (6 * top) + 1/3 = (hue : Rat) / top + 1/3 := by
    rw [Int.sub_zero, Rat.intCast_mul]; show (6 : Rat) * _ / _ + _ = _; grind
  have q1 : ((6 * hue - 2 * top : Int) : Rat) / (6 * top) + 1/3 = (hue : Rat) / top := by
    rw [Rat.intCast_sub, Rat.intCast_mul, Rat.intCast_mul]; show ((6 : Rat) * _ - (2 : Rat) * _) / _ + _ = _; grind
  have q2 : ((6 * hue - 4 * top : Int) : Rat) / (6 * top) + 1/3 = (hue : Rat) / top - 1/3 := by
    rw [Rat.intCast_sub, Rat.intCast_mul, Rat.intCast_mul]; show ((6 : Rat) * _ - (4 : Rat) * _) / _ + _ = _; grind
  have lq : ∀ (y z : Int), z = -y → ((ρl - ρs * ρl) + 2 * (ρs * ρl) * cvP ((y : Rat) / (6 * top) + 1/3)) * ((top * top * top * q : Int) : Rat) = ((q * light * (top * top + part * liftI top y z) : Int) : Rat) := fun y z hz => by
    have li := lift_eq (turn := top) (y := y) (z := z) (by omega) hz
    simp only [Rat.intCast_mul, Rat.intCast_add]
    rw [← li, ← l1, ← s1]
    generalize cvP ((y : Rat) / (6 * top) + 1/3) = c
    grind
  have dR := lq (6 * hue - 0) (0 - 6 * hue) (by omega)
  have dG := lq (6 * hue - 2 * top) (2 * top - 6 * hue) (by omega)
  have dB := lq (6 * hue - 4 * top) (4 * top - 6 * hue) (by omega)
  rw [q0] at dR
  rw [q1] at dG
  rw [q2] at dB
  have dueL : ∀ (X X' : UInt64) (v : Rat) (N : Int), Sh 900 X X' → 0 ≤ fv X → fv X ≤ 1 → v * ((top * top * top * q : Int) : Rat) = N → fv X - v ≤ 620/2^53 → v - fv X ≤ 620/2^53 → FF (Float64.mul (Float64.ofInt (top * top * top * q * 2 ^ 900)) X') ∧ roundF (Float64.mul (Float64.ofInt (top * top * top * q * 2 ^ 900)) X') = N := fun X X' v N sh a b e d1 d2 => by
    have m := mulc d1 d2 W1 W2 (by decide +kernel)
    have k : (620 / 2^53 * 2^41 : Rat) ≤ 3/8 := by decide +kernel
    have ev : fv (Float64.ofInt (top * top * top * q * 2 ^ 900)) * fv X' = fv X * ((top * top * top * q : Int) : Rat) := by
      rw [eK, sh.e]
      have := pow_ne 900
      generalize ((top * top * top * q : Int) : Rat) = c at *
      generalize (2 : Rat) ^ 900 = z at *
      grind
    have u := Rat.mul_nonneg a W1
    have v' := Rat.mul_le_mul_of_nonneg_right b W1
    have l49 : (2 : Rat) ^ 41 ≤ 2 ^ 49 := by decide +kernel
    refine times_round fK sh.f' ?_ ?_ ?_ ?_
    · rw [ev, ← e]; grind
    · rw [ev, ← e]; grind
    · rw [ev]; grind
    · rw [ev]; grind
  refine ⟨okk, tl.1, tl.2, fin1 _ fH H0 H1, fin1 _ fS S0 S1, fun pos => near1 _ _ _ fH H0 H1 hx (hHe pos).1 (hHe pos).2, fun pos => near1 _ _ _ fS S0 S1 s1 (by have := (hS pos).1; grind) (by have := (hS pos).2; grind), fun R' G' B' sr sg sb => ⟨dueL _ _ _ _ sr nR R1 dR gR.2.1 gR.2.2, dueL _ _ _ _ sg nG G1 dG gG.2.1 gG.2.2, dueL _ _ _ _ sb nB B1 dB gB.2.1 gB.2.2⟩⟩
end Mine

end
open PySem PySem.W PySem.Calls PyProof.Rows PySem.SeqAt
set_option maxRecDepth 100000
set_option maxHeartbeats 40000000
namespace Mine
theorem eqL3 {a b c a' b' c' : UInt64} (h1 : (Float64.cmp a a' == some .eq) = true) (h2 : (Float64.cmp b b' == some .eq) = true) (h3 : (Float64.cmp c c' == some .eq) = true) : eqL [.flt a, .flt b, .flt c] [.flt a', .flt b', .flt c'] = some true := by
  simp only [eqL, eqD, h1, h2, h3, if_true, Bool.and_true]
theorem part12 {a m p top : Int} (h0 : 0 ≤ a) (h1 : a ≤ m) (hp : 1 ≤ p) (h : top = 12 * p) : 0 ≤ a * top / 12 ∧ a * top / 12 ≤ m * p := by
  subst h
  have e : a * (12 * p) / 12 = a * p := by rw [Int.mul_left_comm, Int.mul_ediv_cancel_left _ (by decide)]
  rw [e]
  exact ⟨Int.mul_nonneg h0 (by omega), Int.mul_le_mul_of_nonneg_right h1 (by omega)⟩
theorem good12 {h a b p top : Int} (h0 : 0 ≤ h) (h1 : h ≤ 11) (a0 : 0 ≤ a) (a1 : a ≤ 5) (b0 : 0 ≤ b) (b1 : b ≤ 12) (hp : 1 ≤ p) (e : top = 12 * p) : (0 ≤ h * top / 12 ∧ h * top / 12 < top) ∧ (0 ≤ a * top / 12 ∧ 2 * (a * top / 12) ≤ top - 2) ∧ (0 ≤ b * top / 12 ∧ b * top / 12 ≤ top) := by
  have x := part12 h0 h1 hp e
  have y := part12 a0 a1 hp e
  have z := part12 b0 b1 hp e
  generalize h * top / 12 = X at *
  generalize a * top / 12 = Y at *
  generalize b * top / 12 = W at *
  omega
theorem modL {x p top : Int} (hp : 1 ≤ p) (e : top = 12 * p) : 0 ≤ x % (top / 2) ∧ 2 * (x % (top / 2)) ≤ top - 2 := by
  have e2 : top / 2 = 6 * p := by omega
  rw [e2]
  have h0 := Int.emod_nonneg x (show 6 * p ≠ 0 by omega)
  have h1 := Int.emod_lt_of_pos x (show 0 < 6 * p by omega)
  omega
theorem modS {x top : Int} (h : 0 < top) : 0 ≤ x % top ∧ x % top < top := ⟨Int.emod_nonneg x (by omega), Int.emod_lt_of_pos x h⟩
theorem bits3 {top : Int} (h1 : 1 ≤ top) (h2 : top ≤ 4092) : (Builtin.Int.intBits top : Int) * 3 ≤ 2 ^ 27 := by
  have h : Builtin.Int.intBits top ≤ 64 := intBits_le_64 (by omega) (by omega)
  omega
theorem cube {top : Int} (h1 : 1 ≤ top) (h2 : top ≤ 4092) : top ^ (3 : Int).toNat = top * top * top ∧ 0 < top * top * top ∧ top * top * top ≤ 4092 * 4092 * 4092 := by
  have e : top ^ (3 : Int).toNat = top * top * top := by
    show top ^ 3 = _
    rw [Int.pow_succ, Int.pow_succ, Int.pow_succ, Int.pow_zero, Int.one_mul]
  have a : top * top ≤ 4092 * 4092 := Int.mul_le_mul h2 h2 (by omega) (by omega)
  have b : 0 < top * top := Int.mul_pos (by omega) (by omega)
  exact ⟨e, Int.mul_pos b (by omega), Int.mul_le_mul a h2 (by omega) (by omega)⟩
theorem quot3 {T : Int} (h1 : 0 < T) (h2 : T ≤ 4092 * 4092 * 4092) : 1 ≤ 2199023255552 / T ∧ T * (2199023255552 / T) ≤ 2 ^ 41 ∧ 2199023255552 / T ≤ 2199023255552 :=
  have a : 1 ≤ 2199023255552 / T := Int.le_ediv_of_mul_le h1 (by omega)
  ⟨a, by rw [Int.mul_comm]; exact Int.ediv_mul_le _ (by omega), Int.ediv_le_self _ (by omega)⟩
theorem pow_nz {n : Nat} (hn : n ≤ 900) : Float64.isZero (Float64.ofInt (2 ^ n)) = false := by
  obtain ⟨f, e⟩ := pow_int hn
  rw [isZero_fv f, e, decide_eq_false (pow_ne n)]
theorem K_fit {c : Int} (h0 : 0 < c) (h1 : c ≤ 2 ^ 41) : (c * 2 ^ (900 : Int).toNat).natAbs < 2 ^ 1023 := by
  rw [Int.natAbs_mul]
  have a : ((2 : Int) ^ (900 : Int).toNat).natAbs = 2 ^ 900 := by decide +kernel
  rw [a]
  have b : c.natAbs * 2 ^ 900 ≤ 2 ^ 41 * 2 ^ 900 := Nat.mul_le_mul_right _ (by omega)
  refine Nat.lt_of_le_of_lt b ?_
  rw [← Nat.pow_add]
  exact Nat.pow_lt_pow_right (by decide) (by decide)
theorem two_items {i : Nat} {d : D} {n1 : Int} (h : [D.int n1, D.int 900][i]? = some d) (h0 : 0 ≤ n1) (h1 : n1 ≤ 900) : ∃ n : Int, d = .int n ∧ 0 ≤ n ∧ n ≤ 900 ∧ i < 2 ∧ (i = 1 → n = 900) := by
  match i, h with
  | 0, h => cases h; exact ⟨n1, rfl, h0, h1, by decide, fun e => by cases e⟩
  | 1, h => cases h; exact ⟨900, rfl, by decide, by decide, by decide, fun _ => rfl⟩
  | (i + 2), h => simp at h
end Mine
open Mine
local macro_rules | `(tactic| walk_at "E") => `(tactic| first
  | ((with_reducible show WE _ _ _ _ _ _ (Expr.BinOp _ _ _ _) _); refine WE_binop ?_)
  | ((with_reducible show WE _ _ _ _ _ _ (Expr.Constant (Const.float _) _ _) _); refine WE_flt ?_)
  | ((with_reducible show WE _ _ _ _ _ _ (Expr.Constant (Const.int _) _ _) _); refine WE_int ?_)
  | ((with_reducible show WE _ _ _ _ _ _ (Expr.Constant (Const.bool _) _ _) _); refine WE_bool ?_)
  | ((with_reducible show WE _ _ _ _ _ _ (Expr.Name _ _) _); first | refine WE_name rfl ?_ | refine WE_name (by assumption) ?_ | refine WE_name (comp_get (by assumption)) ?_)
  | ((with_reducible show WE _ _ _ _ _ _ (Expr.Tuple _ _ _) _); refine WE_tuple ?_)
  | ((with_reducible show WE _ _ _ _ _ _ (Expr.List _ _) _); refine WE_list ?_)
  | ((with_reducible show WE _ _ _ _ _ _ (Expr.Subscript _ (Expr.Slice _ _ none _) _) _); refine WE_cut ?_)
  | ((with_reducible show WE _ _ _ _ _ _ (Expr.Subscript _ _ _) _); refine WE_item ?_)
  | ((with_reducible show WE _ _ _ _ _ _ (Expr.UnaryOp _ _ _) _); refine WE_unary ?_)
  | ((with_reducible show WP _ _ _ _ _ _ (some _) _); refine WP_some ?_)
  | ((with_reducible show WP _ _ _ _ _ _ none _); refine WP_none ?_)
  | ((with_reducible show WEs _ _ _ _ _ _ (_ :: _) _); refine WEs_cons ?_)
  | ((with_reducible show WEs _ _ _ _ _ _ [] _); refine WEs_nil ?_)
  | ((with_reducible show BO _ _ _ Operator.Mult (D.flt _) (D.flt _) _); refine BO_mul_ff ?_)
  | ((with_reducible show BO _ _ _ Operator.Add (D.flt _) (D.flt _) _); refine BO_add_ff ?_)
  | ((with_reducible show BO _ _ _ Operator.Sub (D.flt _) (D.flt _) _); refine BO_sub_ff ?_)
  | ((with_reducible show BO _ _ _ Operator.Add (D.int _) (D.int _) _); refine BO_add_ii ?_)
  | ((with_reducible show BO _ _ _ Operator.Sub (D.int _) (D.int _) _); refine BO_sub_ii ?_)
  | ((with_reducible show BO _ _ _ Operator.Mult (D.int _) (D.int _) _); refine BO_mul_ii (by first | exact mulL (by omega) (by omega) | exact mulR (by omega) (by omega)) ?_)
  | ((with_reducible show BO _ _ _ Operator.Pow (D.int _) (D.int _) _); first | refine BO_pow_eq pow16 (by decide) (by decide) ?_ | refine BO_pow_eq pow30 (by decide) (by decide) ?_ | refine BO_pow_eq pow31 (by decide) (by decide) ?_ | refine BO_pow_eq pow32 (by decide) (by decide) ?_ | refine BO_pow_eq pow36 (by decide) (by decide) ?_ | refine BO_pow_eq pow40 (by decide) (by decide) ?_ | refine BO_pow_eq pow41 (by decide) (by decide) ?_ | refine BO_pow_eq pow44 (by decide) (by decide) ?_ | refine BO_pow_eq pow45 (by decide) (by decide) ?_ | refine BO_pow_eq pow52 (by decide) (by decide) ?_ | refine BO_pow_eq pow53 (by decide) (by decide) ?_ | refine BO_pow_ii (by decide) (by decide) ?_ | refine BO_pow2 (by omega) (by omega) ?_)
  | ((with_reducible show BO _ _ _ Operator.Mod (D.int _) (D.int _) _); refine BO_mod_p (by omega) ?_)
  | ((with_reducible show BO _ _ _ Operator.FloorDiv (D.int _) (D.int _) _); refine BO_div_p (by omega) (by omega) ?_)
  | ((with_reducible show BO _ _ _ Operator.Add (D.lst _) (D.lst _) _); refine BO_add_ll (by first | (simp; done) | (simp; omega) | (refine Nat.le_trans (Nat.add_le_add_right (cut_length_le _ _ _) _) ?_; simp; omega)) ?_)
  | ((with_reducible show BO _ _ _ Operator.Div (D.int _) (D.int _) _); refine BO_div_s (Rm.handled (by first | assumption | apply_assumption)) (by omega) (by omega) (by omega) ?_)
  | ((with_reducible show BO _ _ _ Operator.Mult (D.int _) (D.flt _) _); refine BO_mul_s (by omega) (by omega) ?_)
  | ((with_reducible show IO _ _ _ (D.tup _) (D.int (OfNat.ofNat _)) _); refine IO_ti (by decide) rfl (by decide) ?_)
  | ((with_reducible show IO _ _ _ (D.lst (_ :: _)) (D.int (OfNat.ofNat _)) _); refine IO_li (by decide) rfl (by decide) ?_)
  | ((with_reducible show UO _ _ _ UnaryOp.USub (D.int _) _); refine UO_neg_i ?_)
  | ((with_reducible show IO _ _ _ (D.lst (List.map D.int _ ++ [D.int 0])) (D.int 0) _); refine IO_li (by decide) (first0_get _) (by decide) ?_))

theorem PySem.Challenge.cw_dm0025_10_holds : PySem.Challenge.rw_dm0025_10.Holds := by
  w_on; o_law; k_head; (case hw => w_witness2)
  k_fill
  intro w s₀ s₁ mg mb G Y fa o pm cd doc dV kV ho hd hcd hD hmg hg args vals as hpre hlay hrd hwl hlo
  have KX := kIn_of Y
  refine Ground.open G ?_
  intro T Bt Dt TE TW
  wrow_args hpre hlay hrd hwl hlo
  rename Well _ _ _ _ => hW
  rename ¬ (_ < _) => hlen
  have GB : Base s₁ mg mb := base_of KX T.g T.b T.builtins T.nolimit (by kernel_rfl)
  obtain ⟨f1, o1, pm1, cd1, doc1, hm1, ho1, hd1, hc1⟩ := T.fn _ (List.mem_of_find?_eq_some (p := fun e => decide (e.name = Str.ofString "_v")) (by with_unfolding_all rfl))
  obtain ⟨f2, o2, pm2, cd2, doc2, hm2, ho2, hd2, hc2⟩ := T.fn _ (List.mem_of_find?_eq_some (p := fun e => decide (e.name = Str.ofString "hls_to_rgb")) (by with_unfolding_all rfl))
  obtain ⟨f3, o3, pm3, cd3, doc3, hm3, ho3, hd3, hc3⟩ := T.fn _ (List.mem_of_find?_eq_some (p := fun e => decide (e.name = Str.ofString "rgb_to_hls")) (by with_unfolding_all rfl))
  obtain ⟨f4, o4, pm4, cd4, doc4, hm4, ho4, hd4, hc4⟩ := T.fn _ (List.mem_of_find?_eq_some (p := fun e => decide (e.name = Str.ofString "_law_triples")) (by with_unfolding_all rfl))
  have nmax : mg "max" = none := mg_none_of KX T.g (by kernel_rfl)
  have nmin : mg "min" = none := mg_none_of KX T.g (by kernel_rfl)
  have nlen : mg "len" = none := mg_none_of KX T.g (by kernel_rfl)
  have nrange : mg "range" = none := mg_none_of KX T.g (by kernel_rfl)
  have nround : mg "round" = none := mg_none_of KX T.g (by kernel_rfl)
  have nisinstance : mg "isinstance" = none := mg_none_of KX T.g (by kernel_rfl)
  have nfloat : mg "float" = none := mg_none_of KX T.g (by kernel_rfl)
  have nlist : mg "list" = none := mg_none_of KX T.g (by kernel_rfl)
  obtain ⟨t3, g3, n3⟩ : ∃ t, mg "ONE_THIRD" = some (.float 4599676419421066581 t) ∧ t ≠ 0 := mg_flt KX T.g (by kernel_rfl)
  obtain ⟨t6, g6, n6⟩ : ∃ t, mg "ONE_SIXTH" = some (.float 4595172819793696085 t) ∧ t ≠ 0 := mg_flt KX T.g (by kernel_rfl)
  obtain ⟨t23, g23, n23⟩ : ∃ t, mg "TWO_THIRD" = some (.float 4604180019048437077 t) ∧ t ≠ 0 := mg_flt KX T.g (by kernel_rfl)
  have vv : ∀ A, Rm 1 A → ∀ m1 m2 hue, WC PySem.Challenge.rw_dm0025_10.row.prog w s₁ A (.ref f1) [.flt m1, .flt m2, .flt hue] (fun d => d = .flt (vF m1 m2 hue)) := by
    intro A hA m1 m2 hue
    refine WC_doc GB hm1 ho1 hd1 hc1 (names := [Str.ofString "m1", Str.ofString "m2", Str.ofString "hue"]) hA.room rfl ?_ ?_ ?_
    · intro vals hl
      match vals, hl with
      | [a, b, c], _ => rfl
    · intro L y hy; simp only [List.mem_cons, List.not_mem_nil, or_false] at hy
      rcases hy with rfl | rfl | rfl
      · exact .inl rfl
      · exact .inl rfl
      · exact .inl rfl
    · intro L
      refine WS_cons (WX_assign (.inl rfl) ?_)
      repeat walk_at "E"
      refine BO_mod_ff (by decide +kernel) ?_
      unfold vF vT
      show WS _ _ _ _ _ (Store.set _ _ (.dat (.flt (mod1 hue)))) _ _
      generalize mod1 hue = h
      refine WS_cons (WX_if (WT_compare ?_))
      repeat walk_at "E"
      refine WE_global GB rfl g6 (fun _ _ => rep_flt n6) ?_
      refine CO_lt_ff ?_
      cases h1 : (Float64.cmp h 4595172819793696085 == some .lt) with
      | true =>
        refine WS_cons (WX_return ?_)
        repeat walk_at "E"
        rfl
      | false =>
        refine WS_nil ?_
        refine WS_cons (WX_if (WT_compare ?_))
        repeat walk_at "E"
        refine CO_lt_ff ?_
        cases h2 : (Float64.cmp h 4602678819172646912 == some .lt) with
        | true =>
          refine WS_cons (WX_return ?_)
          repeat walk_at "E"
          rfl
        | false =>
          refine WS_nil ?_
          refine WS_cons (WX_if (WT_compare ?_))
          repeat walk_at "E"
          refine WE_global GB rfl g23 (fun _ _ => rep_flt n23) ?_
          refine CO_lt_ff ?_
          cases h3 : (Float64.cmp h 4604180019048437077 == some .lt) with
          | true =>
            refine WS_cons (WX_return ?_)
            repeat walk_at "E"
            refine WE_global GB rfl g23 (fun _ _ => rep_flt n23) ?_
            repeat walk_at "E"
            rfl
          | false =>
            refine WS_nil ?_
            refine WS_cons (WX_return ?_)
            repeat walk_at "E"
            rfl
  have fromHls : ∀ A, Rm 2 A → ∀ h l s, WC PySem.Challenge.rw_dm0025_10.row.prog w s₁ A (.ref f2) [.flt h, .flt l, .flt s] (fun d => d = .tup [.flt (hlsC (Float64.add h 4599676419421066581) l s), .flt (hlsC h l s), .flt (hlsC (Float64.sub h 4599676419421066581) l s)]) := by
    intro A hA h l s
    refine WC_doc GB hm2 ho2 hd2 hc2 (names := [Str.ofString "h", Str.ofString "l", Str.ofString "s"]) hA.room rfl ?_ ?_ ?_
    · intro vals hl
      match vals, hl with
      | [a, b, c], _ => rfl
    · intro L y hy; simp only [List.mem_cons, List.not_mem_nil, or_false] at hy
      rcases hy with rfl | rfl | rfl
      · exact .inl rfl
      · exact .inl rfl
      · exact .inl rfl
    · intro L
      refine WS_cons (WX_if (WT_compare ?_))
      repeat walk_at "E"
      refine CO_eq_ff ?_
      unfold hlsC
      cases h1 : (Float64.cmp s 0 == some .eq) with
      | true =>
        refine WS_cons (WX_return ?_)
        repeat walk_at "E"
        exact ⟨by simp, rfl⟩
      | false =>
        refine WS_nil ?_
        refine WS_cons (WX_if_set (x := Str.ofString "m2") (c := leF l 4602678819172646912) (va := Float64.mul l (Float64.add 4607182418800017408 s)) (vb := Float64.sub (Float64.add l s) (Float64.mul l s)) ?_ ?_ ?_ ?_)
        · refine WT_compare ?_
          repeat walk_at "E"
          exact CO_le_ff rfl
        · intro _
          refine WS_cons (WX_assign (.inl rfl) ?_)
          repeat walk_at "E"
          exact WS_nil ⟨rfl, rfl⟩
        · intro _
          refine WS_cons (WX_assign (.inl rfl) ?_)
          repeat walk_at "E"
          exact WS_nil ⟨rfl, rfl⟩
        show WS _ _ _ _ _ (Store.set _ _ (.dat (.flt (hlsM2 l s)))) _ _
        refine WS_cons (WX_assign (.inl rfl) ?_)
        repeat walk_at "E"
        show WS _ _ _ _ _ (Store.set _ _ (.dat (.flt (hlsM1 l s)))) _ _
        generalize hlsM2 l s = m2
        generalize hlsM1 l s = m1
        refine WS_cons (WX_return ?_)
        refine WE_tuple ?_
        refine WEs_cons ?_
        refine WE_call_doc GB hm1 ho1 hd1 hc1 rfl ?_
        repeat walk_at "E"
        refine WE_global GB rfl g3 (fun _ _ => rep_flt n3) ?_
        repeat walk_at "E"
        refine WC.mono (vv _ (hA.deeper _) _ _ _) ?_
        rintro d rfl
        refine WEs_cons ?_
        refine WE_call_doc GB hm1 ho1 hd1 hc1 rfl ?_
        repeat walk_at "E"
        refine WC.mono (vv _ (hA.deeper _) _ _ _) ?_
        rintro d rfl
        refine WEs_cons ?_
        refine WE_call_doc GB hm1 ho1 hd1 hc1 rfl ?_
        repeat walk_at "E"
        refine WE_global GB rfl g3 (fun _ _ => rep_flt n3) ?_
        repeat walk_at "E"
        refine WC.mono (vv _ (hA.deeper _) _ _ _) ?_
        rintro d rfl
        repeat walk_at "E"
        exact ⟨by simp, rfl⟩
  have toHls : ∀ A, Rm 1 A → ∀ r g b, HlsOk r g b → WC PySem.Challenge.rw_dm0025_10.row.prog w s₁ A (.ref f3) [.flt r, .flt g, .flt b] (fun d => d = .tup [.flt (toH r g b), .flt (toL r g b), .flt (toS r g b)]) := by
    intro A hA r g b hok
    refine WC_doc GB hm3 ho3 hd3 hc3 (names := [Str.ofString "r", Str.ofString "g", Str.ofString "b"]) hA.room rfl ?_ ?_ ?_
    · intro vals hl
      match vals, hl with
      | [a, b, c], _ => rfl
    · intro L y hy; simp only [List.mem_cons, List.not_mem_nil, or_false] at hy
      rcases hy with rfl | rfl | rfl
      · exact .inl rfl
      · exact .inl rfl
      · exact .inl rfl
    · intro L
      refine WS_cons (WX_assign (.inl rfl) ?_)
      refine WE_call_builtin GB rfl nmax (by with_unfolding_all rfl) ?_
      repeat walk_at "E"
      refine WC_max_fff (hA.deeper _).handled ?_
      show WS _ _ _ _ _ (Store.set _ _ (.dat (.flt (mx3 r g b)))) _ _
      refine WS_cons (WX_assign (.inl rfl) ?_)
      refine WE_call_builtin GB rfl nmin (by with_unfolding_all rfl) ?_
      repeat walk_at "E"
      refine WC_min_fff (hA.deeper _).handled ?_
      show WS _ _ _ _ _ (Store.set _ _ (.dat (.flt (mn3 r g b)))) _ _
      unfold HlsOk at hok
      unfold toH toS
      unfold toL at hok ⊢
      rw [show greyF r g b = (Float64.cmp (mn3 r g b) (mx3 r g b) == some .eq) from rfl] at hok ⊢
      generalize mx3 r g b = M at hok ⊢
      generalize mn3 r g b = N at hok ⊢
      refine WS_cons (WX_assign (.inl rfl) ?_)
      repeat walk_at "E"
      refine WS_cons (WX_assign (.inl rfl) ?_)
      repeat walk_at "E"
      refine WS_cons (WX_assign (.inl rfl) ?_)
      repeat walk_at "E"
      refine BO_div_ff (by decide +kernel) ?_
      show WS _ _ _ _ _ (Store.set _ _ (.dat (.flt (litF M N)))) _ _
      refine WS_cons (WX_if (WT_compare ?_))
      repeat walk_at "E"
      refine CO_eq_ff ?_
      cases h1 : (Float64.cmp N M == some .eq) with
      | true =>
        refine WS_cons (WX_return ?_)
        repeat walk_at "E"
        exact ⟨by simp, rfl⟩
      | false =>
      obtain ⟨z1, z2, z3⟩ := hok h1
      refine WS_nil ?_
      refine WS_cons (WX_if_set (x := Str.ofString "s") (c := leF (litF M N) 4602678819172646912) (va := Float64.div (Float64.sub M N) (Float64.add M N)) (vb := Float64.div (Float64.sub M N) (Float64.sub (Float64.sub 4611686018427387904 M) N)) ?_ ?_ ?_ ?_)
      · refine WT_compare ?_
        repeat walk_at "E"
        exact CO_le_ff rfl
      · intro hc
        refine WS_cons (WX_assign (.inl rfl) ?_)
        repeat walk_at "E"
        refine BO_div_ff (z2 hc) ?_
        exact WS_nil ⟨rfl, rfl⟩
      · intro hc
        refine WS_cons (WX_assign (.inl rfl) ?_)
        repeat walk_at "E"
        refine BO_div_ff (z3 hc) ?_
        exact WS_nil ⟨rfl, rfl⟩
      show WS _ _ _ _ _ (Store.set _ _ (.dat (.flt (satF M N)))) _ _
      generalize satF M N = sa
      generalize litF M N = li
      refine WS_cons (WX_assign (.inl rfl) ?_)
      repeat walk_at "E"
      refine BO_div_ff z1 ?_
      show WS _ _ _ _ _ (Store.set _ _ (.dat (.flt (rcF M N r)))) _ _
      refine WS_cons (WX_assign (.inl rfl) ?_)
      repeat walk_at "E"
      refine BO_div_ff z1 ?_
      show WS _ _ _ _ _ (Store.set _ _ (.dat (.flt (rcF M N g)))) _ _
      refine WS_cons (WX_assign (.inl rfl) ?_)
      repeat walk_at "E"
      refine BO_div_ff z1 ?_
      show WS _ _ _ _ _ (Store.set _ _ (.dat (.flt (rcF M N b)))) _ _
      refine WS_cons (WX_if_set (x := Str.ofString "h") (c := Float64.cmp r M == some .eq) (va := Float64.sub (rcF M N b) (rcF M N g)) (vb := if (Float64.cmp g M == some .eq) = true then Float64.sub (Float64.add 4611686018427387904 (rcF M N r)) (rcF M N b)
  else Float64.sub (Float64.add 4616189618054758400 (rcF M N g)) (rcF M N r)) ?_ ?_ ?_ ?_)
      · refine WT_compare ?_
        repeat walk_at "E"
        exact CO_eq_ff rfl
      · intro hc
        refine WS_cons (WX_assign (.inl rfl) ?_)
        repeat walk_at "E"
        exact WS_nil ⟨rfl, rfl⟩
      · intro hc
        refine WS_cons (WX_if_set (x := Str.ofString "h") (c := Float64.cmp g M == some .eq) (va := Float64.sub (Float64.add 4611686018427387904 (rcF M N r)) (rcF M N b)) (vb := Float64.sub (Float64.add 4616189618054758400 (rcF M N g)) (rcF M N r)) ?_ ?_ ?_ ?_)
        · refine WT_compare ?_
          repeat walk_at "E"
          exact CO_eq_ff rfl
        · intro hc
          refine WS_cons (WX_assign (.inl rfl) ?_)
          repeat walk_at "E"
          exact WS_nil ⟨rfl, rfl⟩
        · intro hc
          refine WS_cons (WX_assign (.inl rfl) ?_)
          repeat walk_at "E"
          exact WS_nil ⟨rfl, rfl⟩
        exact WS_nil ⟨rfl, rfl⟩
      show WS _ _ _ _ _ (Store.set _ _ (.dat (.flt (hue0 M N r g b)))) _ _
      refine WS_cons (WX_assign (.inl rfl) ?_)
      repeat walk_at "E"
      refine BO_div_ff (by decide +kernel) ?_
      repeat walk_at "E"
      refine BO_mod_ff (by decide +kernel) ?_
      show WS _ _ _ _ _ (Store.set _ _ (.dat (.flt (hueF M N r g b)))) _ _
      refine WS_cons (WX_return ?_)
      repeat walk_at "E"
      exact ⟨by simp, rfl⟩
  have triples : ∀ A, Rm 1 A → ∀ (ns : List Int) (top p : Int), ns.length ≤ 100 → top = 12 * p → 1 ≤ p → top ≤ 4092 → WC PySem.Challenge.rw_dm0025_10.row.prog w s₁ A (.ref f4) [.lst (ns.map D.int), .int top] (fun d => ∃ ds : List D, d = .lst ds ∧ ∀ d ∈ ds, Trip (fun a b c => (0 ≤ a ∧ a < top) ∧ (0 ≤ b ∧ 2 * b ≤ top - 2) ∧ (0 ≤ c ∧ c ≤ top)) d) := by
    intro A hA ns top p hns hp hp1 hp2
    refine WC_doc GB hm4 ho4 hd4 hc4 (names := [Str.ofString "cells", Str.ofString "top"]) hA.room rfl ?_ ?_ ?_
    · intro vals hl
      match vals, hl with
      | [a, b], _ => rfl
    · intro L y hy; simp only [List.mem_cons, List.not_mem_nil, or_false] at hy
      rcases hy with rfl | rfl
      · exact .inl rfl
      · exact .inl rfl
    · intro L
      refine WS_cons (WX_assign_own (.inl rfl) (own_params _) ?_)
      repeat walk_at "E"
      refine ⟨by simp, ?_⟩
      refine WS_cons (WX_for rfl (WI_range GB (hA.deeper _).handled rfl nrange ?_) (fun _ => fold_cal))
      repeat walk_at "E"
      refine ⟨0, 12, 1, .inl ⟨rfl, rfl, rfl⟩, by decide, by decide, by decide, ?_⟩
      refine LoopP_all (fun i σ => ∃ ds : List D, σ "triples" = some (.own ds) ∧ ds.length ≤ 4 * i ∧ (∀ d ∈ ds, Trip (fun a b c => (0 ≤ a ∧ a < top) ∧ (0 ≤ b ∧ 2 * b ≤ top - 2) ∧ (0 ≤ c ∧ c ≤ top)) d) ∧ σ "cells" = some (.dat (.lst (ns.map D.int))) ∧ σ "top" = some (.dat (.int top))) ?_ ?_ ?_
      · rintro i d σ hd ⟨ds, h1, h2, h3, h4, h5⟩
        obtain ⟨rfl, hi⟩ := rangeD_get hd
        have hi : i < 12 := hi
        have hu1 : 0 ≤ 0 + (i : Int) * 1 := by omega
        have hu2 : 0 + (i : Int) * 1 ≤ 11 := by omega
        generalize 0 + (i : Int) * 1 = hue at hu1 hu2
        refine ⟨_, WA_name (.inl rfl), ?_⟩
        refine WS_cons (WX_for rfl (WI_tup (hA.deeper _).handled ?_) (fun _ => fold_tup))
        repeat walk_at "E"
        refine ⟨by simp, ?_⟩
        repeat walk_at "E"
        refine ⟨by simp, ?_⟩
        repeat walk_at "E"
        refine ⟨by simp, ?_⟩
        repeat walk_at "E"
        refine ⟨by simp, ?_⟩
        repeat walk_at "E"
        refine ⟨by simp, _, rfl, ?_⟩
        refine LoopP_all (fun j σ => ∃ ds : List D, σ "triples" = some (.own ds) ∧ ds.length ≤ 4 * i + j ∧ (∀ d ∈ ds, Trip (fun a b c => (0 ≤ a ∧ a < top) ∧ (0 ≤ b ∧ 2 * b ≤ top - 2) ∧ (0 ≤ c ∧ c ≤ top)) d) ∧ σ "cells" = some (.dat (.lst (ns.map D.int))) ∧ σ "top" = some (.dat (.int top)) ∧ σ "hue" = some (.dat (.int hue))) ?_ ⟨ds, h1, by omega, h3, h4, h5, rfl⟩ ?_
        · rintro j d σ hd ⟨ds, h1, h2, h3, h4, h5, h6⟩
          have hj : j < 4 := by
            rcases Nat.lt_or_ge j 4 with q | q
            · exact q
            · rw [List.getElem?_eq_none (by simpa using q)] at hd; cases hd
          have hd := List.mem_of_getElem? hd
          have hab : ∃ a b : Int, d = .tup [.int a, .int b] ∧ (0 ≤ a ∧ a ≤ 5) ∧ (0 ≤ b ∧ b ≤ 12) := by
            simp only [List.mem_cons, List.not_mem_nil, or_false] at hd
            rcases hd with rfl | rfl | rfl | rfl <;> exact ⟨_, _, rfl, by decide, by decide⟩
          clear hd
          obtain ⟨a, b, rfl, ha, hb'⟩ := hab
          refine ⟨_, WA_tuple (hA.deeper _).handled rfl (by intro x hx; simp only [List.mem_cons, List.not_mem_nil, or_false] at hx; rcases hx with rfl | rfl <;> exact .inl rfl) (.inr rfl) rfl, ?_⟩
          refine WS_cons (WX_append rfl (ds := ds) h1 (by omega) ?_)
          repeat walk_at "E"
          refine ⟨by simp, ?_⟩
          refine WS_nil ⟨rfl, _, rfl, by simp; omega, ?_, h4, h5, h6⟩
          intro d hd
          rcases List.mem_append.mp hd with hd | hd
          · exact h3 d hd
          · rw [List.mem_singleton] at hd
            subst hd
            exact ⟨_, _, _, rfl, good12 hu1 hu2 ha.1 ha.2 hb'.1 hb'.2 hp1 hp⟩
        rintro σ ⟨ds, h1, h2, h3, h4, h5, _⟩
        exact WS_nil ⟨rfl, ds, h1, by simp at h2; omega, h3, h4, h5⟩
      · exact ⟨[], rfl, by simp, by simp, rfl, rfl⟩
      rintro σ ⟨ds, h1, h2, h3, h4, h5⟩
      have h2 : ds.length ≤ 4 * 12 := h2
      refine WS_cons (WX_for rfl (WI_range GB (hA.deeper _).handled rfl nrange ?_) (fun _ => fold_cal))
      repeat walk_at "E"
      refine WE_call_builtin GB rfl nlen (by with_unfolding_all rfl) ?_
      repeat walk_at "E"
      refine WC_len_l (by simp; omega) ?_
      repeat walk_at "E"
      refine ⟨0, _, 3, .inr (.inr rfl), by decide, by simp; omega, by decide, ?_⟩
      rw [List.length_map]
      refine LoopP_all (fun i σ => ∃ ds : List D, σ "triples" = some (.own ds) ∧ ds.length ≤ 48 + i ∧ (∀ d ∈ ds, Trip (fun a b c => (0 ≤ a ∧ a < top) ∧ (0 ≤ b ∧ 2 * b ≤ top - 2) ∧ (0 ≤ c ∧ c ≤ top)) d) ∧ σ "cells" = some (.dat (.lst (ns.map D.int))) ∧ σ "top" = some (.dat (.int top))) ?_ ⟨ds, h1, h2, h3, h4, h5⟩ ?_
      · rintro i d σ hd ⟨ds, h1, h2, h3, h4, h5⟩
        obtain ⟨rfl, hi⟩ := rangeD3_get hd
        have hlen2 := rangeD3_length ns.length
        refine ⟨_, WA_name (.inl rfl), ?_⟩
        obtain ⟨a, b, c, hc⟩ := cut_three ns (3 * i) (by omega) hi
        refine WS_cons (WX_assign_tuple (hA.deeper _).handled rfl (by intro x hx; simp only [List.mem_cons, List.not_mem_nil, or_false] at hx; rcases hx with rfl | rfl | rfl <;> exact .inl rfl) ?_)
        repeat walk_at "E"
        refine ⟨_, rfl, ?_⟩
        repeat walk_at "E"
        refine ⟨_, rfl, _, rfl, ?_, ?_⟩
        · simp; omega
        repeat walk_at "E"
        refine ⟨by simp, ?_⟩
        repeat walk_at "E"
        refine ⟨_, rfl, _, rfl, Nat.le_trans (Nat.le_of_eq (List.length_append ..)) ?_, ?_⟩
        · refine Nat.le_trans (Nat.add_le_add_right (cut_length_le _ _ _) _) ?_; simp; omega
        rw [hc]
        refine ⟨_, .inl rfl, rfl, ?_⟩
        refine WS_cons (WX_append rfl (ds := ds) h1 (by omega) ?_)
        repeat walk_at "E"
        refine ⟨by simp, ?_⟩
        refine WS_nil ⟨rfl, _, rfl, by simp; omega, ?_, h4, h5⟩
        intro d hd
        rcases List.mem_append.mp hd with hd | hd
        · exact h3 d hd
        · rw [List.mem_singleton] at hd
          subst hd
          exact ⟨_, _, _, rfl, modS (by omega), modL hp1 hp, mod_bd _⟩
      rintro σ ⟨ds, h1, h2, h3, h4⟩
      refine WS_freeze rfl h1 (WS_cons (WX_return (WE_name rfl ?_)))
      exact ⟨ds, rfl, h3⟩
  obtain rfl := hD.none rfl
  obtain rfl := hD.noKw
  refine wpAny_mono (law_call (n := Str.ofString "script") GB ⟨hmg, ⟨o, ho, hd⟩, hcd⟩ (Rm.caller.room) rfl rfl rfl rfl rfl rfl rfl rfl rfl rfl (well_ints hW) ?_) ?_ ?_
  · intro L
    have hA : ∀ env, Rm 19 (callerA.deeper env) := fun _ => Rm.caller.deeper _
    rename List Int => ns
    refine WS_cons (WX_assign (.inl rfl) ?_)
    repeat walk_at "E"
    refine ⟨_, rfl, _, rfl, by simp; omega, ?_⟩
    rw [cut_map]
    have hlen' : (cut ns none (some 63)).length ≤ 63 := Nat.le_trans (cut_length_le _ _ _) (by omega)
    generalize cut ns none (some 63) = ns' at hlen'
    refine WS_cons (WX_assign (.inl rfl) ?_)
    repeat walk_at "E"
    refine ⟨by simp, ?_⟩
    repeat walk_at "E"
    refine WS_cons (WX_assign (.inr ⟨rfl, rfl, rfl⟩) ?_)
    repeat walk_at "E"
    generalize first0 ns' = first
    have hp0 : ∃ p, 12 * (1 + first % 341) = 12 * p ∧ 1 ≤ p ∧ p ≤ 341 := ⟨_, rfl, by omega, by omega⟩
    generalize 12 * (1 + first % 341) = top at hp0
    obtain ⟨p, hp, hp1, hp2⟩ := hp0
    obtain ⟨cu1, cu2, cu3⟩ := cube (top := top) (by omega) (by omega)
    have hb3 := bits3 (top := top) (by omega) (by omega)
    refine WS_cons (WX_assign (.inr ⟨rfl, rfl, rfl⟩) ?_)
    repeat walk_at "E"
    refine BO_pow_ii (by decide) hb3 ?_
    rw [cu1]
    repeat walk_at "E"
    obtain ⟨qa, qb, qc⟩ := quot3 cu2 cu3
    generalize 2199023255552 / (top * top * top) = q at qa qb qc
    have htt : top * top ≤ 4092 * 4092 := Int.mul_le_mul (by omega) (by omega) (by omega) (by omega)
    have htt0 : 0 < top * top := Int.mul_pos (by omega) (by omega)
    refine WS_cons (WX_for rfl (WI_lst (hA _).handled ?_) (fun _ => fold_cal))
    refine WE_call_doc GB hm4 ho4 hd4 hc4 rfl ?_
    repeat walk_at "E"
    refine ⟨_, rfl, ?_⟩
    repeat walk_at "E"
    refine ⟨_, rfl, by simp; omega, ?_⟩
    repeat walk_at "E"
    rw [cut_map]
    refine WC.mono (triples _ (hA _).less _ top p ?_ hp hp1 (by omega)) ?_
    · refine Nat.le_trans (cut_length_le _ _ _) (by omega)
    rintro d ⟨ds, rfl, hds⟩
    refine ⟨_, rfl, ?_⟩
    refine LoopP_all (fun i σ => NoOwn σ ∧ σ "top" = some (.dat (.int top)) ∧ σ "whole" = some (.dat (.int q)) ∧ σ "first" = some (.dat (.int first))) ?_ ⟨by repeat (first | exact (fun _ _ e => by cases e) | apply NoOwn.set | apply setAll_noOwn), rfl, rfl, rfl⟩ ?_
    · rintro i d σ hd ⟨h0, h1, h2, h3⟩
      obtain ⟨hue, light, part, rfl, hh, hl, hpa⟩ := hds d (List.mem_of_getElem? hd)
      refine ⟨_, WA_tuple (hA _).handled rfl (by intro x hx; simp only [List.mem_cons, List.not_mem_nil, or_false] at hx; rcases hx with rfl | rfl | rfl <;> exact .inl rfl) (.inl rfl) rfl, ?_⟩
      refine WS_cons (WX_assign (.inl rfl) ?_)
      refine WE_call_doc GB hm2 ho2 hd2 hc2 rfl ?_
      repeat walk_at "E"
      refine WC.mono (fromHls _ (hA _).less _ _ _) ?_
      rintro d rfl
      obtain ⟨hN, hNn⟩ := n10 (top := top) (q := q) (hue := hue) (light := light) (part := part) (by omega) (by omega) qa qb hh hl hpa rfl rfl rfl
      generalize hlsC (Float64.add (divI hue top) 4599676419421066581) (divI light top) (divI part top) = R at hN hNn ⊢
      generalize hlsC (divI hue top) (divI light top) (divI part top) = G at hN hNn ⊢
      generalize hlsC (Float64.sub (divI hue top) 4599676419421066581) (divI light top) (divI part top) = B at hN hNn ⊢
      have hql0 : 0 ≤ q * light := Int.mul_nonneg (by omega) hl.1
      have hql1 : q * light ≤ 2199023255552 * 4092 := Int.mul_le_mul qc (by omega) (by omega) (by omega)
      refine WS_cons (WX_assign_own (.inl rfl) ?_ ?_)
      · apply NoOwn.only
        repeat (first | exact h0 | apply NoOwn.set | apply setAll_noOwn)
      repeat walk_at "E"
      refine ⟨by simp, ?_⟩
      refine WS_cons (WX_for rfl (WI_tup (hA _).handled ?_) (fun _ => fold_tup))
      repeat walk_at "E"
      refine ⟨by simp, _, rfl, ?_⟩
      refine ⟨_, WA_name (.inl rfl), ?_⟩
      refine WS_cons (WX_assign (.inl rfl) ?_)
      refine WE_call_builtin GB rfl nmin (by with_unfolding_all rfl) ?_
      repeat walk_at "E"
      refine WC_min_ii (hA _).handled ?_
      refine WS_cons (WX_append rfl rfl (by simp) ?_)
      repeat walk_at "E"
      refine WE_call_builtin GB rfl nmax (by with_unfolding_all rfl) ?_
      repeat walk_at "E"
      refine WE_call_builtin GB rfl nmin (by with_unfolding_all rfl) ?_
      repeat walk_at "E"
      refine WC_min_ii (hA _).handled ?_
      repeat walk_at "E"
      refine WC_max_ii (hA _).handled ?_
      repeat walk_at "E"
      refine WS_nil ?_
      refine ⟨_, WA_name (.inl rfl), ?_⟩
      refine WS_cons (WX_assign (.inl rfl) ?_)
      refine WE_call_builtin GB rfl nmin (by with_unfolding_all rfl) ?_
      repeat walk_at "E"
      refine WC_min_ii (hA _).handled ?_
      refine WS_cons (WX_append rfl rfl (by simp) ?_)
      repeat walk_at "E"
      refine WE_call_builtin GB rfl nmax (by with_unfolding_all rfl) ?_
      repeat walk_at "E"
      refine WE_call_builtin GB rfl nmin (by with_unfolding_all rfl) ?_
      repeat walk_at "E"
      refine WC_min_ii (hA _).handled ?_
      repeat walk_at "E"
      refine WC_max_ii (hA _).handled ?_
      repeat walk_at "E"
      refine WS_nil ?_
      refine ⟨_, WA_name (.inl rfl), ?_⟩
      refine WS_cons (WX_assign (.inl rfl) ?_)
      refine WE_call_builtin GB rfl nmin (by with_unfolding_all rfl) ?_
      repeat walk_at "E"
      refine WC_min_ii (hA _).handled ?_
      refine WS_cons (WX_append rfl rfl (by simp) ?_)
      repeat walk_at "E"
      refine WE_call_builtin GB rfl nmax (by with_unfolding_all rfl) ?_
      repeat walk_at "E"
      refine WE_call_builtin GB rfl nmin (by with_unfolding_all rfl) ?_
      repeat walk_at "E"
      refine WC_min_ii (hA _).handled ?_
      repeat walk_at "E"
      refine WC_max_ii (hA _).handled ?_
      repeat walk_at "E"
      refine WS_nil ?_
      refine WS_freeze (x := Str.ofString "due") rfl rfl ?_
      refine WS_cons (WX.mono (Q := fun oo σ => oo = .next ∧ NoOwn σ ∧ σ "top" = some (.dat (.int top)) ∧ σ "whole" = some (.dat (.int q)) ∧ σ "first" = some (.dat (.int first)) ∧ σ "hue" = some (.dat (.int hue)) ∧ σ "light" = some (.dat (.int light)) ∧ σ "part" = some (.dat (.int part)) ∧ σ "told" = some (.dat (.tup [.flt R, .flt G, .flt B])) ∧ σ "due" = some (.dat (.lst [.int (q * light * (top * top + part * liftI top (6 * hue - 0) (0 - 6 * hue))), .int (q * light * (top * top + part * liftI top (6 * hue - 2 * top) (2 * top - 6 * hue))), .int (q * light * (top * top + part * liftI top (6 * hue - 4 * top) (4 * top - 6 * hue)))])) ∧ σ "h" = some (.dat (.flt (toH R G B))) ∧ σ "l" = some (.dat (.flt (toL R G B))) ∧ σ "s" = some (.dat (.flt (toS R G B)))) ?_ ?_)
      · refine WX_assign_tuple (hA _).handled rfl (by intro x hx; simp only [List.mem_cons, List.not_mem_nil, or_false] at hx; rcases hx with rfl | rfl | rfl <;> exact .inl rfl) ?_
        refine WE_call_doc GB hm3 ho3 hd3 hc3 rfl ?_
        repeat walk_at "E"
        refine WC.mono (toHls _ (hA _).less _ _ _ hN.ok) ?_
        rintro d rfl
        refine ⟨_, .inr rfl, rfl, ?_⟩
        refine ⟨rfl, ?_, h1, h2, h3, rfl, rfl, rfl, rfl, rfl, rfl, rfl, rfl⟩
        apply setAll_noOwn
        refine OwnOnly.frozen ?_ _
        repeat (first | apply OwnOnly.set' | apply OwnOnly.set)
        apply NoOwn.only
        repeat (first | exact h0 | apply NoOwn.set | apply setAll_noOwn)
      rintro oo σ ⟨rfl, g0, g1, g2, g3, g4, g5, g6, g7, g8, g9, g10, g11⟩
      obtain ⟨_, fl, el, fh, fs, eh, es, edue⟩ := hN
      have hnl : ∀ n : Nat, n ≤ 900 → ∃ R' G' B' : UInt64, hlsC (Float64.add (divI hue top) 4599676419421066581) (hv (divI light top) n) (divI part top) = R' ∧ hlsC (divI hue top) (hv (divI light top) n) (divI part top) = G' ∧ hlsC (Float64.sub (divI hue top) 4599676419421066581) (hv (divI light top) n) (divI part top) = B' ∧ H10 n R G B R' G' B' := fun n hn => ⟨_, _, _, rfl, rfl, rfl, hNn n _ _ _ hn rfl rfl rfl⟩
      clear hNn
      refine WS_cons (WX_if (WT_compare ?_))
      refine WE_listcomp (compOk rfl) (WI_lst (hA _).handled ?_)
      repeat walk_at "E"
      refine WE_call_type GB rfl nlist (by with_unfolding_all rfl) ?_
      repeat walk_at "E"
      refine WC_list_t (by simp) ?_
      repeat walk_at "E"
      refine ⟨by simp, ?_⟩
      refine BO_add_ll (by simp) ?_
      refine ⟨_, rfl, by simp, fun C cl => CompP_none _ _ ?_ ?_⟩
      · intro d hd
        have : ∃ x, d = .flt x := by
          simp only [List.mem_append, List.mem_cons, List.not_mem_nil, or_false] at hd
          rcases hd with (rfl | rfl | rfl) | (rfl | rfl | rfl) <;> exact ⟨_, rfl⟩
        obtain ⟨x, rfl⟩ := this
        refine WT_not (WT_plain ?_)
        refine WE_call_builtin GB rfl nisinstance (by with_unfolding_all rfl) ?_
        repeat walk_at "E"
        refine WE_type GB rfl nfloat (by with_unfolding_all rfl) ?_
        repeat walk_at "E"
        exact WC_isi_f (TO_bool rfl)
      repeat walk_at "E"
      refine ⟨by simp, ?_⟩
      refine CO_ne_ll GB (hA _).cl (r := true) rfl ?_
      show WS _ _ _ _ _ _ _ _
      refine WS_nil ?_
      refine WS_cons (WX_if (WT_compare ?_))
      refine WE_call_builtin GB rfl nround (by with_unfolding_all rfl) ?_
      repeat walk_at "E"
      refine WC_round (hA _).handled fl ?_
      rw [el]
      repeat walk_at "E"
      refine CO_ne_ii ?_
      rw [show (light != light) = false by simp]
      show WS _ _ _ _ _ _ _ _
      refine WS_nil ?_
      refine WS_cons (WX.mono (Q := fun oo σ' => oo = .next ∧ σ' = σ) ?_ ?_)
      · refine WX_if (WT_and (WT_compare ?_))
        repeat walk_at "E"
        refine CO_gt_ii ?_
        by_cases pos : 0 < light * part
        · rw [decide_eq_true pos]
          show WT _ _ _ _ _ _ _ _
          refine WT_and (WT_compare ?_)
          refine WE_list ?_
          refine WEs_cons ?_
          refine WE_call_builtin GB rfl nround (by with_unfolding_all rfl) ?_
          repeat walk_at "E"
          refine WC_round (hA _).handled fh ?_
          rw [eh pos]
          refine WEs_cons ?_
          refine WE_call_builtin GB rfl nround (by with_unfolding_all rfl) ?_
          repeat walk_at "E"
          refine WC_round (hA _).handled fs ?_
          rw [es pos]
          repeat walk_at "E"
          refine ⟨by simp, ?_⟩
          repeat walk_at "E"
          refine ⟨by simp, ?_⟩
          refine CO_ne_ll GB (hA _).cl (r := true) (by simp [eqL, eqD]) ?_
          show WS _ _ _ _ _ _ _ _
          exact WS_nil ⟨rfl, rfl⟩
        · rw [decide_eq_false pos]
          show WS _ _ _ _ _ _ _ _
          exact WS_nil ⟨rfl, rfl⟩
      rintro oo σ' ⟨rfl, rfl⟩
      refine WS_cons (WX_for rfl (WI_tup (hA _).handled ?_) (fun _ => fold_tup))
      repeat walk_at "E"
      refine ⟨by simp, _, rfl, ?_⟩
      have hn0 : 0 ≤ 1 + first / 341 % 900 ∧ 1 + first / 341 % 900 ≤ 900 := by omega
      generalize 1 + first / 341 % 900 = n1 at hn0
      refine LoopP_all (fun i σ => NoOwn σ ∧ (σ "top" = some (.dat (.int top)) ∧ σ "whole" = some (.dat (.int q)) ∧ σ "first" = some (.dat (.int first)) ∧ σ "hue" = some (.dat (.int hue)) ∧ σ "light" = some (.dat (.int light)) ∧ σ "part" = some (.dat (.int part)) ∧ σ "told" = some (.dat (.tup [.flt R, .flt G, .flt B])) ∧ σ "due" = some (.dat (.lst [.int (q * light * (top * top + part * liftI top (6 * hue - 0) (0 - 6 * hue))), .int (q * light * (top * top + part * liftI top (6 * hue - 2 * top) (2 * top - 6 * hue))), .int (q * light * (top * top + part * liftI top (6 * hue - 4 * top) (4 * top - 6 * hue)))])) ∧ σ "h" = some (.dat (.flt (toH R G B))) ∧ σ "l" = some (.dat (.flt (toL R G B))) ∧ σ "s" = some (.dat (.flt (toS R G B)))) ∧ (i = 2 → ∃ R' G' B' : UInt64, σ "dark" = some (.dat (.tup [.flt R', .flt G', .flt B'])) ∧ H10 900 R G B R' G' B')) ?_ ⟨g0, ⟨g1, g2, g3, g4, g5, g6, g7, g8, g9, g10, g11⟩, fun e => by cases e⟩ ?_
      · rintro j d σ hd ⟨g0, ⟨g1, g2, g3, g4, g5, g6, g7, g8, g9, g10, g11⟩, _⟩
        obtain ⟨n, rfl, n0, n9, hj, hlast⟩ := two_items hd hn0.1 hn0.2
        clear hd
        have hz := pow_nz (n := n.toNat) (by omega)
        have hfit := big1023 (n := n.toNat) (by omega)
        obtain ⟨R', G', B', e1, e2, e3, hH⟩ := hnl n.toNat (by omega)
        refine ⟨_, WA_name (.inl rfl), ?_⟩
        refine WS_cons (WX_assign (.inl rfl) ?_)
        refine WE_call_doc GB hm2 ho2 hd2 hc2 rfl ?_
        repeat walk_at "E"
        refine BO_div_fi hfit hz ?_
        show WEs _ _ _ _ _ _ _ _
        repeat walk_at "E"
        refine WC.mono (fromHls _ (hA _).less _ _ _) ?_
        rintro d rfl
        change WS _ _ _ _ _ (Store.set _ _ (.dat (.tup [.flt (hlsC (Float64.add (divI hue top) 4599676419421066581) (hv (divI light top) n.toNat) (divI part top)), .flt (hlsC (divI hue top) (hv (divI light top) n.toNat) (divI part top)), .flt (hlsC (Float64.sub (divI hue top) 4599676419421066581) (hv (divI light top) n.toNat) (divI part top))]))) _ _
        rw [e1, e2, e3]
        refine WS_cons (WX_if (WT_compare ?_))
        repeat walk_at "E"
        refine BO_div_fi hfit hz ?_
        repeat walk_at "E"
        refine BO_div_fi hfit hz ?_
        repeat walk_at "E"
        refine BO_div_fi hfit hz ?_
        repeat walk_at "E"
        refine ⟨by simp, ?_⟩
        refine CO_ne_tt GB (hA _).cl (r := true) (eqL3 hH.r hH.g hH.b) ?_
        show WS _ _ _ _ _ _ _ _
        refine WS_nil ?_
        refine WS_cons (WX_if (WT_compare ?_))
        refine WE_call_doc GB hm3 ho3 hd3 hc3 rfl ?_
        repeat walk_at "E"
        refine WC.mono (toHls _ (hA _).less _ _ _ hH.ok) ?_
        rintro d rfl
        repeat walk_at "E"
        refine BO_div_fi hfit hz ?_
        repeat walk_at "E"
        refine ⟨by simp, ?_⟩
        refine CO_ne_tt GB (hA _).cl (r := true) (eqL3 hH.h hH.l hH.s) ?_
        show WS _ _ _ _ _ _ _ _
        refine WS_nil ?_
        refine WS_nil ⟨rfl, ?_, ⟨g1, g2, g3, g4, g5, g6, g7, g8, g9, g10, g11⟩, fun e => ⟨R', G', B', rfl, ?_⟩⟩
        · repeat (first | exact g0 | apply NoOwn.set | apply setAll_noOwn)
        · have : n = 900 := hlast (by omega)
          subst this
          exact hH
      rintro σ ⟨g0, ⟨g1, g2, g3, g4, g5, g6, g7, g8, g9, g10, g11⟩, hlast⟩
      obtain ⟨R', G', B', gd, hH⟩ := hlast rfl
      obtain ⟨⟨fr, rr⟩, ⟨fg, rg⟩, fb, rb⟩ := edue R' G' B' hH.sr hH.sg hH.sb
      have C0 : 0 < top * top * top * q := Int.mul_pos cu2 (by omega)
      refine WS_cons (WX_if (WT_compare ?_))
      refine WE_listcomp (compOk rfl) (WI_tup (hA _).handled ?_)
      refine WE_name gd ?_
      refine ⟨_, rfl, by simp, fun C cl => CompP_map (fun d => match d with | .flt x => .int (roundF (Float64.mul (Float64.ofInt (top * top * top * q * 2 ^ 900)) x)) | d => d) _ _ ?_ ?_⟩
      · intro d hd
        have : ∃ x, d = .flt x ∧ Float64.isFinite (Float64.mul (Float64.ofInt (top * top * top * q * 2 ^ 900)) x) = true := by
          simp only [List.mem_cons, List.not_mem_nil, or_false] at hd
          rcases hd with rfl | rfl | rfl
          · exact ⟨_, rfl, fr⟩
          · exact ⟨_, rfl, fg⟩
          · exact ⟨_, rfl, fb⟩
        obtain ⟨x, rfl, fx⟩ := this
        refine WE_call_builtin GB rfl nround (by with_unfolding_all rfl) ?_
        repeat walk_at "E"
        refine BO_pow_ii (by decide) hb3 ?_
        rw [cu1]
        repeat walk_at "E"
        refine BO_mul_if (K_fit C0 qb) ?_
        repeat walk_at "E"
        exact WC_round (hA _).handled fx rfl
      repeat walk_at "E"
      refine CO_ne_ll GB (hA _).cl (r := true) (by simp only [List.map, rr, rg, rb]; simp [eqL, eqD]) ?_
      show WS _ _ _ _ _ _ _ _
      refine WS_nil ?_
      exact WS_nil ⟨rfl, g0, g1, g2, g3⟩
    · intro σ _
      refine WS_cons (WX_return ?_)
      repeat walk_at "E"
      rfl
  · rintro u s' ⟨rfl, h1, h2, h3⟩
    exact good_true hg h1 h2 h3
  · exact fun _ _ f => f.elim

