import PyProof.Rows.All
import Wide.All
import OpenK.AllK
import Wide.FinOn
import PySem.Challenge.RW_dm0025_08
set_option Elab.async false
set_option compiler.extract_closed false
set_option linter.unusedVariables false
set_option linter.unusedSimpArgs false

section
open PySem PySem.W PyProof.Rows
namespace Mine

/-- plain data -/
inductive D where
  | none
  | bool (b : Bool)
  | int (i : Int)
  | flt (x : UInt64)
  | typ (n : String)
  | lst (xs : List D)
  | tup (xs : List D)

noncomputable def PTup (h : Heap) (a : Addr) (items : Array Value) : Prop := ∃ n, h.get? a = some { cls := .type "tuple", data := .seq items n }
theorem PTup.isTuple {h : Heap} {a : Addr} {items : Array Value} (x : PTup h a items) : h.IsTuple a items := let ⟨n, ho⟩ := x; ⟨_, ho, rfl, n, rfl⟩

mutual
/-- the value v stands for the datum, by objects outside of X -/
noncomputable def Rep (h : Heap) (X : List Addr) : D → Value → Prop
  | .none, v => v = .none
  | .bool b, v => v = .bool b
  | .int i, v => ∃ t, v = .int i t
  | .flt x, v => ∃ t, v = .float x t ∧ t ≠ 0
  | .typ n, v => v = .type n
  | .lst ds, v => ∃ a vs, v = .ref a ∧ a ∉ X ∧ h.PlainList a (List.toArray vs) ∧ Reps h X ds vs
  | .tup ds, v => ∃ a vs, v = .ref a ∧ a ∉ X ∧ PTup h a (List.toArray vs) ∧ Reps h X ds vs
noncomputable def Reps (h : Heap) (X : List Addr) : List D → List Value → Prop
  | [], vs => vs = []
  | d :: ds, vs => ∃ v vs', vs = v :: vs' ∧ Rep h X d v ∧ Reps h X ds vs'
end

theorem isTuple_at {h h' : Heap} {a : Addr} {items} (x : PTup h a items) (e : ∀ o, h.get? a = some o → h'.get? a = some o) : PTup h' a items :=
  let ⟨n, ho⟩ := x; ⟨n, e _ ho⟩

mutual
theorem Rep.mono {h h' : Heap} {X X' : List Addr} (hk : ∀ a o, a ∉ X → h.get? a = some o → h'.get? a = some o ∧ a ∉ X') : ∀ {d : D} {v : Value}, Rep h X d v → Rep h' X' d v
  | .none, _, r => r
  | .bool _, _, r => r
  | .int _, _, r => r
  | .flt _, _, r => r
  | .typ _, _, r => r
  | .lst ds, _, ⟨a, vs, e, ha, hl, hr⟩ => by
    obtain ⟨n, ho⟩ := id hl
    exact ⟨a, vs, e, (hk a _ ha ho).2, hl.at fun o e => (hk a o ha e).1, Reps.mono hk hr⟩
  | .tup ds, _, ⟨a, vs, e, ha, hl, hr⟩ => by
    obtain ⟨n, ho⟩ := id hl
    exact ⟨a, vs, e, (hk a _ ha ho).2, isTuple_at hl fun o e => (hk a o ha e).1, Reps.mono hk hr⟩
theorem Reps.mono {h h' : Heap} {X X' : List Addr} (hk : ∀ a o, a ∉ X → h.get? a = some o → h'.get? a = some o ∧ a ∉ X') : ∀ {ds : List D} {vs : List Value}, Reps h X ds vs → Reps h' X' ds vs
  | [], _, r => r
  | d :: ds, _, ⟨v, vs', e, r, rs⟩ => ⟨v, vs', e, Rep.mono hk r, Reps.mono hk rs⟩
end

theorem Rep.keeps {h h' : Heap} {X : List Addr} {d : D} {v : Value} (r : Rep h X d v) (hk : ∀ a o, h.get? a = some o → h'.get? a = some o) : Rep h' X d v :=
  r.mono fun a o ha e => ⟨hk a o e, ha⟩
theorem Reps.keeps {h h' : Heap} {X : List Addr} {ds : List D} {vs : List Value} (r : Reps h X ds vs) (hk : ∀ a o, h.get? a = some o → h'.get? a = some o) : Reps h' X ds vs :=
  r.mono fun a o ha e => ⟨hk a o e, ha⟩

theorem Reps.length {h : Heap} {X : List Addr} : ∀ {ds : List D} {vs : List Value}, Reps h X ds vs → vs.length = ds.length
  | [], _, r => by rw [r]; rfl
  | _ :: _, _, ⟨_, _, e, _, rs⟩ => by rw [e, List.length_cons, List.length_cons, Reps.length rs]
theorem Reps.get {h : Heap} {X : List Addr} : ∀ {ds : List D} {vs : List Value}, Reps h X ds vs → ∀ {i : Nat} {v : Value}, vs[i]? = some v → ∃ d, ds[i]? = some d ∧ Rep h X d v
  | [], _, r, i, v, e => by rw [r] at e; simp at e
  | d :: ds, _, ⟨v, vs', e, r, rs⟩, i, v', ev => by
    subst e
    cases i with
    | zero => simp at ev; subst ev; exact ⟨d, rfl, r⟩
    | succ i => simp at ev; obtain ⟨d', h1, h2⟩ := Reps.get rs ev; exact ⟨d', by simpa using h1, h2⟩
theorem Reps.at {h : Heap} {X : List Addr} : ∀ {ds : List D} {vs : List Value}, Reps h X ds vs → ∀ {i : Nat} {d : D}, ds[i]? = some d → ∃ v, vs[i]? = some v ∧ Rep h X d v
  | [], _, r, i, v, e => by simp at e
  | d :: ds, _, ⟨v, vs', e, r, rs⟩, i, d', ev => by
    subst e
    cases i with
    | zero => simp at ev; subst ev; exact ⟨v, rfl, r⟩
    | succ i => simp at ev; obtain ⟨v', h1, h2⟩ := Reps.at rs ev; exact ⟨v', by simpa using h1, h2⟩
theorem Reps.append {h : Heap} {X : List Addr} : ∀ {ds : List D} {vs : List Value}, Reps h X ds vs → ∀ {es : List D} {ws : List Value}, Reps h X es ws → Reps h X (ds ++ es) (vs ++ ws)
  | [], _, r, _, _, q => by rw [r]; exact q
  | d :: ds, _, ⟨v, vs', e, r, rs⟩, _, _, q => by subst e; exact ⟨v, _, rfl, r, Reps.append rs q⟩
theorem Reps.take {h : Heap} {X : List Addr} : ∀ {ds : List D} {vs : List Value}, Reps h X ds vs → ∀ n, Reps h X (ds.take n) (vs.take n)
  | [], _, r, n => by rw [r]; simp [Reps]
  | d :: ds, _, ⟨v, vs', e, r, rs⟩, 0 => by simp [Reps]
  | d :: ds, _, ⟨v, vs', e, r, rs⟩, n + 1 => by subst e; exact ⟨v, _, rfl, r, Reps.take rs n⟩
theorem Reps.drop {h : Heap} {X : List Addr} : ∀ {ds : List D} {vs : List Value}, Reps h X ds vs → ∀ n, Reps h X (ds.drop n) (vs.drop n)
  | [], _, r, n => by rw [r]; simp [Reps]
  | d :: ds, _, ⟨v, vs', e, r, rs⟩, 0 => by subst e; exact ⟨v, _, rfl, r, rs⟩
  | d :: ds, _, ⟨v, vs', e, r, rs⟩, n + 1 => by subst e; exact Reps.drop rs n
theorem Reps.one {h : Heap} {X : List Addr} {d : D} {v : Value} (r : Rep h X d v) : Reps h X [d] [v] := ⟨v, [], rfl, r, rfl⟩

/-- a variable's place: a datum, or a list that the frame alone holds -/
inductive Slot where
  | dat (d : D)
  | own (ds : List D)

noncomputable abbrev Store := Str → Option Slot
noncomputable def Store.set (σ : Store) (x : Str) (sl : Slot) : Store := fun y => if y = x then some sl else σ y

/-- the ground: the module's names -/
structure Base (B : Shared) (mg mb : Str → Option Value) : Prop where
  g : B.heap.Ns mainGlobals mg
  b : B.heap.Ns builtinsNs mb
  builtins : ∀ x : Str, x ≠ "__name__" → mb x = bootBuiltins x
  nolimit : B.heap.NoLimit
  told : NoneBooked B.heap

noncomputable def Holds (env : Env) (m cm : Str → Option Value) (x : Str) (v : Value) : Prop :=
  match env.kindOf x with
  | some .local => m x = some v
  | some .cell => (env.cells.lookup x).isSome = true ∧ cm x = some v
  | some .free => (env.cells.lookup x).isSome = true ∧ cm x = some v
  | _ => False

noncomputable def SlotRep (h : Heap) (O Hd : List Addr) (env : Env) : Slot → Value → Prop
  | .dat d, v => Rep h (O ++ Hd) d v
  | .own ds, v => ∃ a vs, v = .ref a ∧ a ∈ O ∧ a ≠ env.locals ∧ (∀ x c, env.cells.lookup x = some c → a ≠ c) ∧ h.PlainList a (List.toArray vs) ∧ Reps h (O ++ Hd) ds vs

structure Inv (B : Shared) (O Hd : List Addr) (env : Env) (σ : Store) (s : Shared) : Prop where
  same : ∃ h tk, s = { B with heap := h, toks := tk } ∧ 0 < tk
  base : ∀ b o, B.heap.get? b = some o → s.heap.get? b = some o ∧ b ∉ O ++ Hd
  live : ∀ a, a ∈ O ++ Hd → ∃ o, s.heap.get? a = some o
  disj : ∀ a, a ∈ O → a ∉ Hd
  kind : env.scope.kind = .function
  glob : env.globals = mainGlobals
  blt : env.builtins = builtinsNs
  loc : env.locals ∈ O
  cellIn : env.func.isSome = true → ∀ x c, env.cells.lookup x = some c → c ∈ O
  cellNe : ∀ x c, env.cells.lookup x = some c → c ≠ env.locals
  cellInj : ∀ x y c, env.cells.lookup x = some c → env.cells.lookup y = some c → x = y
  vars : ∃ m cm, s.heap.Ns env.locals m ∧ (∀ x c, env.cells.lookup x = some c → s.heap.IsCell c (cm x)) ∧
    ∀ x sl, σ x = some sl → ∃ v, Holds env m cm x v ∧ SlotRep s.heap O Hd env sl v
  one : ∀ x y ds es, σ x = some (.own ds) → σ y = some (.own es) → x = y

theorem SlotRep.keeps {h h' : Heap} {O Hd : List Addr} {env : Env} {sl : Slot} {v : Value} (r : SlotRep h O Hd env sl v) (hk : ∀ a o, h.get? a = some o → h'.get? a = some o) : SlotRep h' O Hd env sl v := by
  cases sl with
  | dat d => exact Rep.keeps r hk
  | own ds => obtain ⟨a, vs, e, h1, h2, h3, h4, h5⟩ := r; exact ⟨a, vs, e, h1, h2, h3, h4.at fun o e => hk _ o e, h5.keeps hk⟩

/-- nothing that stood is changed -/
structure Kp (s s' : Shared) : Prop where
  same : ∃ h' tk, s' = { s with heap := h', toks := tk } ∧ s.toks ≤ tk
  get : ∀ b o, s.heap.get? b = some o → s'.heap.get? b = some o
theorem Kp.refl (s : Shared) : Kp s s := ⟨⟨s.heap, s.toks, rfl, Nat.le_refl _⟩, fun _ _ e => e⟩
theorem Kp.trans {s s' s'' : Shared} (k : Kp s s') (k' : Kp s' s'') : Kp s s'' := by
  refine ⟨?_, fun b o e => k'.get b o (k.get b o e)⟩
  obtain ⟨h', tk', rfl, ht⟩ := k.same
  obtain ⟨h'', tk'', rfl, ht'⟩ := k'.same
  exact ⟨h'', tk'', rfl, Nat.le_trans ht ht'⟩
theorem Kp.tok (s : Shared) (t : Nat) (ht : s.toks ≤ t := by exact Nat.le_succ _) : Kp s { s with toks := t } := ⟨⟨s.heap, t, rfl, ht⟩, fun _ _ e => e⟩
theorem Kp.push (s : Shared) (o : Obj) : Kp s { s with heap := s.heap.push o } := ⟨⟨_, s.toks, rfl, Nat.le_refl _⟩, fun _ _ e => Heap.get?_push_of_some _ e⟩
theorem Kp.mk' {s : Shared} {h' : Heap} {tk : Nat} (hk : ∀ b o, s.heap.get? b = some o → h'.get? b = some o) (ht : s.toks ≤ tk := by omega) : Kp s { s with heap := h', toks := tk } := ⟨⟨h', tk, rfl, ht⟩, hk⟩

theorem Inv.keeps {B : Shared} {O Hd : List Addr} {env : Env} {σ : Store} {s s' : Shared} (I : Inv B O Hd env σ s) (k : Kp s s') : Inv B O Hd env σ s' := by
  obtain ⟨⟨h', tk', rfl, ht⟩, hk⟩ := k
  obtain ⟨h, tk, hs, h0⟩ := I.same
  obtain ⟨m, cm, hn, hc, hv⟩ := I.vars
  refine ⟨⟨h', tk', by rw [hs], by rw [hs] at ht; exact Nat.lt_of_lt_of_le h0 ht⟩, fun b o e => ⟨hk _ _ (I.base b o e).1, (I.base b o e).2⟩, fun a ha => ?_, I.disj, I.kind, I.glob, I.blt, I.loc, I.cellIn, I.cellNe, I.cellInj, ?_, I.one⟩
  · obtain ⟨o, ho⟩ := I.live a ha; exact ⟨o, hk _ _ ho⟩
  · exact ⟨m, cm, hn.keeps hk, fun x c e => (hc x c e).keeps hk, fun x sl e => by obtain ⟨v, h1, h2⟩ := hv x sl e; exact ⟨v, h1, h2.keeps hk⟩⟩

theorem Inv.pos {B : Shared} {O Hd : List Addr} {env : Env} {σ : Store} {s : Shared} (I : Inv B O Hd env σ s) : s.toks ≠ 0 := by
  obtain ⟨h, tk, e, h0⟩ := I.same; subst e; exact Nat.ne_of_gt h0

theorem rep_bool {h : Heap} {X : List Addr} {b : Bool} : Rep h X (.bool b) (.bool b) := by unfold Rep; rfl
theorem rep_int {h : Heap} {X : List Addr} {i : Int} {t : Tok} : Rep h X (.int i) (.int i t) := by unfold Rep; exact ⟨t, rfl⟩
theorem rep_flt {h : Heap} {X : List Addr} {x : UInt64} {t : Tok} (ht : t ≠ 0) : Rep h X (.flt x) (.float x t) := by unfold Rep; exact ⟨t, rfl, ht⟩
theorem rep_typ {h : Heap} {X : List Addr} {n : String} : Rep h X (.typ n) (.type n) := by unfold Rep; rfl
theorem rep_lst {h : Heap} {X : List Addr} {ds : List D} {a : Addr} {vs : List Value} (ha : a ∉ X) (hl : h.PlainList a vs.toArray) (r : Reps h X ds vs) : Rep h X (.lst ds) (.ref a) := by unfold Rep; exact ⟨a, vs, rfl, ha, hl, r⟩
theorem rep_tup {h : Heap} {X : List Addr} {ds : List D} {a : Addr} {vs : List Value} (ha : a ∉ X) (hl : PTup h a vs.toArray) (r : Reps h X ds vs) : Rep h X (.tup ds) (.ref a) := by unfold Rep; exact ⟨a, vs, rfl, ha, hl, r⟩
theorem Rep.bool_inv {h : Heap} {X : List Addr} {b : Bool} {v : Value} (r : Rep h X (.bool b) v) : v = .bool b := by unfold Rep at r; exact r
theorem Rep.int_inv {h : Heap} {X : List Addr} {i : Int} {v : Value} (r : Rep h X (.int i) v) : ∃ t, v = .int i t := by unfold Rep at r; exact r
theorem Rep.flt_inv {h : Heap} {X : List Addr} {x : UInt64} {v : Value} (r : Rep h X (.flt x) v) : ∃ t, v = .float x t ∧ t ≠ 0 := by unfold Rep at r; exact r
theorem Rep.typ_inv {h : Heap} {X : List Addr} {n : String} {v : Value} (r : Rep h X (.typ n) v) : v = .type n := by unfold Rep at r; exact r
theorem Rep.lst_inv {h : Heap} {X : List Addr} {ds : List D} {v : Value} (r : Rep h X (.lst ds) v) : ∃ a vs, v = .ref a ∧ a ∉ X ∧ h.PlainList a (List.toArray vs) ∧ Reps h X ds vs := by unfold Rep at r; exact r
theorem Rep.tup_inv {h : Heap} {X : List Addr} {ds : List D} {v : Value} (r : Rep h X (.tup ds) v) : ∃ a vs, v = .ref a ∧ a ∉ X ∧ PTup h a (List.toArray vs) ∧ Reps h X ds vs := by unfold Rep at r; exact r

noncomputable abbrev no : Value → Shared → Prop := fun _ _ => False

/-- the expression evaluates to a datum of which Q holds, and no object that stood is changed -/
noncomputable def WE (prog : Program) (w : World) (B : Shared) (A : Around) (env : Env) (σ : Store) (e : Expr) (Q : D → Prop) : Prop :=
  ∀ O Hd s, Inv B O Hd env σ s → wpAny (model prog w) A (eval e env) (fun v s' => Kp s s' ∧ ∃ d, Rep s'.heap (O ++ Hd) d v ∧ Q d) no s

/-- a test -/
noncomputable def WT (prog : Program) (w : World) (B : Shared) (A : Around) (env : Env) (σ : Store) (e : Expr) (Q : Bool → Prop) : Prop :=
  ∀ O Hd s, Inv B O Hd env σ s → wpAny (model prog w) A (isTrue e env (eval e env)) (fun b s' => Kp s s' ∧ Q b) no s

end Mine

end
section
open PySem PySem.W PySem.Calls PyProof.Rows
namespace Mine

structure Live (X : List Addr) (s : Shared) : Prop where
  at_ : ∀ a, a ∈ X → ∃ o, s.heap.get? a = some o
  pos : s.toks ≠ 0
theorem Live.keeps {X : List Addr} {s s' : Shared} (l : Live X s) (k : Kp s s') : Live X s' := ⟨fun a ha => by
  obtain ⟨o, ho⟩ := l.at_ a ha; exact ⟨o, k.get _ _ ho⟩, by
  obtain ⟨h, tk, e, ht⟩ := k.same; subst e; intro q; exact l.pos (Nat.le_zero.mp (q ▸ ht))⟩
theorem Inv.lives {B : Shared} {O Hd : List Addr} {env : Env} {σ : Store} {s : Shared} (I : Inv B O Hd env σ s) : Live (O ++ Hd) s := ⟨I.live, I.pos⟩
theorem Live.fresh {X : List Addr} {s : Shared} (l : Live X s) : s.heap.objs.size ∉ X := fun h => by
  obtain ⟨o, ho⟩ := l.at_ _ h; exact absurd (Heap.lt_size ho) (Nat.lt_irrefl _)

section
variable {prog : Program} {w : World} {B : Shared} {A : Around} {env : Env} {σ : Store}

/-- the state under a call: the ground, and what must not be met -/
structure Grd (B : Shared) (X : List Addr) (s : Shared) : Prop where
  same : ∃ h tk, s = { B with heap := h, toks := tk } ∧ 0 < tk
  base : ∀ b o, B.heap.get? b = some o → s.heap.get? b = some o ∧ b ∉ X
  live : Live X s
theorem Inv.grd {O Hd : List Addr} {s : Shared} (I : Inv B O Hd env σ s) : Grd B (O ++ Hd) s := ⟨I.same, I.base, I.lives⟩
noncomputable def BO (prog : Program) (w : World) (A : Around) (op : Operator) (a b : D) (Q : D → Prop) : Prop :=
  ∀ X s va vb, Live X s → Rep s.heap X a va → Rep s.heap X b vb → wpAny (model prog w) A (binaryOp op va vb) (fun v s' => Kp s s' ∧ ∃ d, Rep s'.heap X d v ∧ Q d) no s
noncomputable def CO (prog : Program) (w : World) (B : Shared) (A : Around) (op : CmpOp) (a b : D) (Q : Bool → Prop) : Prop :=
  ∀ X s va vb, Grd B X s → Rep s.heap X a va → Rep s.heap X b vb → wpAny (model prog w) A (compareOp op va vb) (fun v s' => Kp s s' ∧ ∃ c, v = .bool c ∧ Q c) no s
noncomputable def TO (prog : Program) (w : World) (A : Around) (a : D) (Q : Bool → Prop) : Prop :=
  ∀ X s va, Live X s → Rep s.heap X a va → wpAny (model prog w) A (truthy va) (fun c s' => Kp s s' ∧ Q c) no s
noncomputable def UO (prog : Program) (w : World) (A : Around) (op : UnaryOp) (a : D) (Q : D → Prop) : Prop :=
  ∀ X s va, Live X s → Rep s.heap X a va → wpAny (model prog w) A (unaryOp op va) (fun v s' => Kp s s' ∧ ∃ d, Rep s'.heap X d v ∧ Q d) no s

theorem WE.mono {e : Expr} {Q Q' : D → Prop} (h : WE prog w B A env σ e Q) (hq : ∀ d, Q d → Q' d) : WE prog w B A env σ e Q' := fun O Hd s I =>
  wpAny_mono (h O Hd s I) (fun v s' ⟨k, d, r, q⟩ => ⟨k, d, r, hq d q⟩) fun _ _ f => f
theorem WT.mono {e : Expr} {Q Q' : Bool → Prop} (h : WT prog w B A env σ e Q) (hq : ∀ d, Q d → Q' d) : WT prog w B A env σ e Q' := fun O Hd s I =>
  wpAny_mono (h O Hd s I) (fun v s' ⟨k, q⟩ => ⟨k, hq _ q⟩) fun _ _ f => f

theorem WE_int {i : Int} {k : Nat} {pos : Pos} {Q : D → Prop} (q : Q (.int i)) : WE prog w B A env σ (.Constant (.int i) k pos) Q := fun O Hd s I =>
  wpAny_Constant_int ⟨Kp.tok _ _, _, rep_int, q⟩
theorem WE_flt {x : UInt64} {k : Nat} {pos : Pos} {Q : D → Prop} (q : Q (.flt x)) : WE prog w B A env σ (.Constant (.float x) k pos) Q := fun O Hd s I =>
  (show wpAny (model prog w) A (mkFloat x) _ _ s from fun _ _ _ => ⟨Kp.tok _ _, _, rep_flt I.pos, q⟩)
theorem WE_bool {b : Bool} {k : Nat} {pos : Pos} {Q : D → Prop} (q : Q (.bool b)) : WE prog w B A env σ (.Constant (.bool b) k pos) Q := fun O Hd s I =>
  Constant_bool ⟨Kp.refl _, _, rep_bool, q⟩
theorem Inv.load {O Hd : List Addr} {s : Shared} {M : Model} (I : Inv B O Hd env σ s) {x : Str} {sl : Slot} (hx : σ x = some sl) (hn : (x == ("__classdict__" : Str)) = false) {Q : Value → Shared → Prop} {E : Value → Shared → Prop}
    (h : ∀ v, SlotRep s.heap O Hd env sl v → Q v s) : wpAny M A (loadName env x) Q E s := by
  obtain ⟨m, cm, ns, cs, vs⟩ := I.vars
  obtain ⟨v, hv, r⟩ := vs x sl hx
  unfold Holds at hv
  split at hv
  · rename_i hk
    exact wpAny_loadName_local I.kind hk ns hv (h v r)
  · rename_i hk
    obtain ⟨c, hc⟩ := Option.isSome_iff_exists.mp hv.1
    exact wpAny_loadName_cell I.kind hk hc (hv.2 ▸ cs x c hc) (h v r)
  · rename_i hk
    obtain ⟨c, hc⟩ := Option.isSome_iff_exists.mp hv.1
    exact wpAny_loadName_free I.kind hk hc (hv.2 ▸ cs x c hc) (h v r) hn
  · exact hv.elim

theorem WE_name {x : Str} {pos : Pos} {d : D} {Q : D → Prop} (hx : σ x = some (.dat d)) (q : Q d)
    (hd : (x == ("__debug__" : Str)) = false := by decide) (hn : (x == ("__classdict__" : Str)) = false := by decide) : WE prog w B A env σ (.Name x pos) Q := fun O Hd s I =>
  wpAny_Name (I.load hx hn fun v r => ⟨Kp.refl _, d, r, q⟩) hd

theorem WE_global {mg mb : Str → Option Value} (G : Base B mg mb) {x : Str} {pos : Pos} {v : Value} {d : D} {Q : D → Prop} (hx : env.kindOf x = some .globalImplicit) (hv : mg x = some v)
    (r : ∀ h X, Rep h X d v) (q : Q d) (hd : (x == ("__debug__" : Str)) = false := by decide) : WE prog w B A env σ (.Name x pos) Q := fun O Hd s I => by
  refine Name_function_global I.kind hx ?_ hd
  refine loadGlobal_global (mg := mg) ?_ hv ⟨Kp.refl _, d, r _ _, q⟩
  rw [I.glob]; exact G.g.keeps fun b o e => (I.base b o e).1

theorem load_builtin {mg mb : Str → Option Value} (G : Base B mg mb) {O Hd : List Addr} {s : Shared} (I : Inv B O Hd env σ s) {x : Str} {pos : Pos} {v : Value} {Q : Value → Shared → Prop} {E : Value → Shared → Prop} {M : Model}
    (hx : env.kindOf x = some .globalImplicit) (hm : mg x = none) (hb : bootBuiltins x = some v) (h : Q v s) (hn : x ≠ "__name__") (hd : (x == ("__debug__" : Str)) = false) : wpAny M A (eval (.Name x pos) env) Q E s := by
  refine Name_function_global I.kind hx ?_ hd
  refine loadGlobal_builtin (mg := mg) (mb := mb) ?_ hm ?_ ((G.builtins x hn).trans hb) h
  · rw [I.glob]; exact G.g.keeps fun b o e => (I.base b o e).1
  · rw [I.blt]; exact G.b.keeps fun b o e => (I.base b o e).1
theorem load_global {mg mb : Str → Option Value} (G : Base B mg mb) {O Hd : List Addr} {s : Shared} (I : Inv B O Hd env σ s) {x : Str} {pos : Pos} {v : Value} {Q : Value → Shared → Prop} {E : Value → Shared → Prop} {M : Model}
    (hx : env.kindOf x = some .globalImplicit) (hm : mg x = some v) (h : Q v s) (hd : (x == ("__debug__" : Str)) = false) : wpAny M A (eval (.Name x pos) env) Q E s := by
  refine Name_function_global I.kind hx ?_ hd
  refine loadGlobal_global (mg := mg) ?_ hm h
  rw [I.glob]; exact G.g.keeps fun b o e => (I.base b o e).1

theorem WE_type {mg mb : Str → Option Value} (G : Base B mg mb) {x : Str} {pos : Pos} {n : String} {Q : D → Prop} (hx : env.kindOf x = some .globalImplicit) (hm : mg x = none) (hb : bootBuiltins x = some (.type n))
    (q : Q (.typ n)) (hn : x ≠ "__name__" := by decide) (hd : (x == ("__debug__" : Str)) = false := by decide) : WE prog w B A env σ (.Name x pos) Q := fun O Hd s I =>
  load_builtin G I hx hm hb ⟨Kp.refl _, _, rep_typ, q⟩ hn hd

theorem WE_binop {l r : Expr} {op : Operator} {pos : Pos} {Q : D → Prop} (h : WE prog w B A env σ l (fun a => WE prog w B A env σ r (fun b => BO prog w A op a b Q))) : WE prog w B A env σ (.BinOp l op r pos) Q := fun O Hd s I => by
  refine wpAny_BinOp (wpAny_mono (h O Hd s I) (fun va s₁ ⟨k₁, a, ra, h₁⟩ => ?_) fun _ _ f => f.elim)
  refine wpAny_mono (h₁ O Hd s₁ (I.keeps k₁)) (fun vb s₂ ⟨k₂, b, rb, h₂⟩ => ?_) fun _ _ f => f.elim
  refine wpAny_mono (h₂ _ s₂ va vb (I.keeps (k₁.trans k₂)).lives (ra.keeps k₂.get) rb) (fun v s' ⟨k₃, d, rd, q⟩ => ⟨(k₁.trans k₂).trans k₃, d, rd, q⟩) fun _ _ f => f

theorem WE_unary {x : Expr} {op : UnaryOp} {pos : Pos} {Q : D → Prop} (h : WE prog w B A env σ x (fun a => UO prog w A op a Q)) : WE prog w B A env σ (.UnaryOp op x pos) Q := fun O Hd s I => by
  refine UnaryOp_ (wpAny_mono (h O Hd s I) (fun va s₁ ⟨k₁, a, ra, h₁⟩ => ?_) fun _ _ f => f.elim)
  exact wpAny_mono (h₁ _ s₁ va (I.keeps k₁).lives ra) (fun v s' ⟨k₃, d, rd, q⟩ => ⟨k₁.trans k₃, d, rd, q⟩) fun _ _ f => f

theorem WT_compare {l r : Expr} {op : CmpOp} {pos : Pos} {Q : Bool → Prop} (h : WE prog w B A env σ l (fun a => WE prog w B A env σ r (fun b => CO prog w B A op a b Q)))
    (hm : behindInMarks op r = false := by with_unfolding_all rfl) : WT prog w B A env σ (.Compare l [op] [r] pos) Q := fun O Hd s I => by
  refine wpAny_isTrue_Compare1 (wpAny_mono (h O Hd s I) (fun va s₁ ⟨k₁, a, ra, h₁⟩ => ?_) fun _ _ f => f.elim) hm
  refine wpAny_mono (h₁ O Hd s₁ (I.keeps k₁)) (fun vb s₂ ⟨k₂, b, rb, h₂⟩ => ?_) fun _ _ f => f.elim
  refine wpAny_mono (h₂ _ s₂ va vb (I.keeps (k₁.trans k₂)).grd (ra.keeps k₂.get) rb) (fun v s' ⟨k₃, c, e, q⟩ => ?_) fun _ _ f => f
  subst e; exact wpAny_truthy_bool ⟨(k₁.trans k₂).trans k₃, q⟩

theorem WT_or_nil {pos : Pos} {Q : Bool → Prop} (q : Q false) : WT prog w B A env σ (.BoolOp .Or [] pos) Q := fun O Hd s I => isTrue_or_nil ⟨Kp.refl _, q⟩
theorem WT_and {x : Expr} {rest : List Expr} {pos : Pos} {Q : Bool → Prop} (h : WT prog w B A env σ x (fun c => if c = true then WT prog w B A env σ (.BoolOp .And rest pos) Q else Q false)) :
    WT prog w B A env σ (.BoolOp .And (x :: rest) pos) Q := fun O Hd s I => by
  refine isTrue_and (wpAny_mono (h O Hd s I) (fun c s₁ ⟨k₁, h₁⟩ => ?_) fun _ _ f => f)
  cases c with
  | false => exact ⟨k₁, h₁⟩
  | true =>
    simp only [if_true] at h₁ ⊢
    exact wpAny_mono (h₁ O Hd s₁ (I.keeps k₁)) (fun c s' ⟨k, q⟩ => ⟨k₁.trans k, q⟩) fun _ _ f => f
theorem WT_or {x : Expr} {rest : List Expr} {pos : Pos} {Q : Bool → Prop} (h : WT prog w B A env σ x (fun c => if c = true then Q true else WT prog w B A env σ (.BoolOp .Or rest pos) Q)) :
    WT prog w B A env σ (.BoolOp .Or (x :: rest) pos) Q := fun O Hd s I => by
  refine isTrue_or (wpAny_mono (h O Hd s I) (fun c s₁ ⟨k₁, h₁⟩ => ?_) fun _ _ f => f)
  cases c with
  | true => exact ⟨k₁, h₁⟩
  | false =>
    simp only [Bool.false_eq_true, if_false] at h₁ ⊢
    exact wpAny_mono (h₁ O Hd s₁ (I.keeps k₁)) (fun c s' ⟨k, q⟩ => ⟨k₁.trans k, q⟩) fun _ _ f => f

/-- any other test: its value's truth -/
theorem WT_plain {e : Expr} {Q : Bool → Prop} (h : WE prog w B A env σ e (fun a => TO prog w A a Q))
    (he : isTrue e env (eval e env) = (do let v ← eval e env; standAt e.pos; holding [v] (truthy v)) := by rfl) : WT prog w B A env σ e Q := fun O Hd s I => by
  refine isTrue_plain (wpAny_mono (h O Hd s I) (fun va s₁ ⟨k₁, a, ra, h₁⟩ => ?_) fun _ _ f => f.elim) he
  exact wpAny_mono (h₁ _ s₁ va (I.keeps k₁).lives ra) (fun c s' ⟨k, q⟩ => ⟨k₁.trans k, q⟩) fun _ _ f => f

theorem WE_ifexp {t a b : Expr} {pos : Pos} {Q : D → Prop} (h : WT prog w B A env σ t (fun c => if c = true then WE prog w B A env σ a Q else WE prog w B A env σ b Q)) : WE prog w B A env σ (.IfExp t a b pos) Q := fun O Hd s I => by
  refine IfExp_ (wpAny_mono (h O Hd s I) (fun c s₁ ⟨k₁, h₁⟩ => ?_) fun _ _ f => f)
  cases c with
  | true =>
    simp only [if_true] at h₁ ⊢
    exact wpAny_mono (h₁ O Hd s₁ (I.keeps k₁)) (fun v s' ⟨k, d, r, q⟩ => ⟨k₁.trans k, d, r, q⟩) fun _ _ f => f
  | false =>
    simp only [Bool.false_eq_true, if_false] at h₁ ⊢
    exact wpAny_mono (h₁ O Hd s₁ (I.keeps k₁)) (fun v s' ⟨k, d, r, q⟩ => ⟨k₁.trans k, d, r, q⟩) fun _ _ f => f

end
end Mine

end
section
open PySem PySem.W PySem.Calls PyProof.Rows
namespace Mine

section
variable {prog : Program} {w : World} {B : Shared} {A : Around} {env : Env} {σ : Store}

-- ints
theorem BO_add_ii {a b : Int} {Q : D → Prop} (q : Q (.int (a + b))) : BO prog w A .Add (.int a) (.int b) Q := fun X s va vb l ra rb => by
  obtain ⟨t, rfl⟩ := ra.int_inv; obtain ⟨u, rfl⟩ := rb.int_inv
  exact PyProof.Rows.add_int ⟨Kp.tok _ _, _, rep_int, q⟩
theorem BO_sub_ii {a b : Int} {Q : D → Prop} (q : Q (.int (a - b))) : BO prog w A .Sub (.int a) (.int b) Q := fun X s va vb l ra rb => by
  obtain ⟨t, rfl⟩ := ra.int_inv; obtain ⟨u, rfl⟩ := rb.int_inv
  exact PyProof.Rows.sub_int ⟨Kp.tok _ _, _, rep_int, q⟩
theorem BO_mul_ii {a b : Int} {Q : D → Prop} (hm : IntMulOk a b) (q : Q (.int (a * b))) : BO prog w A .Mult (.int a) (.int b) Q := fun X s va vb l ra rb => by
  obtain ⟨t, rfl⟩ := ra.int_inv; obtain ⟨u, rfl⟩ := rb.int_inv
  exact PyProof.Rows.mul_int ⟨Kp.tok _ _, _, rep_int, q⟩ hm
theorem BO_mod_ii {a b : Int} {Q : D → Prop} (hb : b ≠ 0) (q : Q (.int (a.fmod b))) : BO prog w A .Mod (.int a) (.int b) Q := fun X s va vb l ra rb => by
  obtain ⟨t, rfl⟩ := ra.int_inv; obtain ⟨u, rfl⟩ := rb.int_inv
  exact PyProof.Rows.mod_int hb ⟨Kp.tok _ _, _, rep_int, q⟩
theorem BO_floordiv_ii {a b : Int} {Q : D → Prop} (hb : b ≠ 0) (hp : b.natAbs.log2 < 9000) (q : Q (.int (a.fdiv b))) : BO prog w A .FloorDiv (.int a) (.int b) Q := fun X s va vb l ra rb => by
  obtain ⟨t, rfl⟩ := ra.int_inv; obtain ⟨u, rfl⟩ := rb.int_inv
  exact AutoIntOps.floordiv_1 (by simpa using hb) (by rw [PyProof.noPylong_of_log2 hp]; simp) ⟨Kp.tok _ _, _, rep_int, q⟩
theorem BO_pow_ii {a b : Int} {Q : D → Prop} (hb : 0 ≤ b) (hsz : (Builtin.Int.intBits a : Int) * b ≤ 2 ^ 27) (q : Q (.int (a ^ b.toNat))) : BO prog w A .Pow (.int a) (.int b) Q := fun X s va vb l ra rb => by
  obtain ⟨t, rfl⟩ := ra.int_inv; obtain ⟨u, rfl⟩ := rb.int_inv
  exact PyProof.Rows.pow_int hb hsz ⟨Kp.tok _ _, _, rep_int, q⟩
/-- true division of ints -/
noncomputable def divI (a b : Int) : UInt64 := Float64.ofFrac (decide (a < 0) != decide (b < 0)) a.natAbs b.natAbs
theorem BO_div_ii {a b : Int} {Q : D → Prop} (hA : A.handled = none) (hfit : a.natAbs < 2 ^ 1023) (hb : b ≠ 0) (q : Q (.flt (divI a b))) : BO prog w A .Div (.int a) (.int b) Q := fun X s va vb l ra rb => by
  obtain ⟨t, rfl⟩ := ra.int_inv; obtain ⟨u, rfl⟩ := rb.int_inv
  exact PySem.Flt.div_ii_fits hA hfit (fun h => absurd h hb) (fun _ _ => ⟨Kp.tok _ _, _, rep_flt l.pos, q⟩)
-- floats
theorem BO_add_ff {a b : UInt64} {Q : D → Prop} (q : Q (.flt (Float64.add a b))) : BO prog w A .Add (.flt a) (.flt b) Q := fun X s va vb l ra rb => by
  obtain ⟨t, rfl, ht⟩ := ra.flt_inv; obtain ⟨u, rfl, hu⟩ := rb.flt_inv
  exact PyProof.Rows.add_float ⟨Kp.tok _ _, _, rep_flt l.pos, q⟩
theorem BO_sub_ff {a b : UInt64} {Q : D → Prop} (q : Q (.flt (Float64.sub a b))) : BO prog w A .Sub (.flt a) (.flt b) Q := fun X s va vb l ra rb => by
  obtain ⟨t, rfl, ht⟩ := ra.flt_inv; obtain ⟨u, rfl, hu⟩ := rb.flt_inv
  exact PyProof.Rows.sub_float ⟨Kp.tok _ _, _, rep_flt l.pos, q⟩
theorem BO_mul_ff {a b : UInt64} {Q : D → Prop} (q : Q (.flt (Float64.mul a b))) : BO prog w A .Mult (.flt a) (.flt b) Q := fun X s va vb l ra rb => by
  obtain ⟨t, rfl, ht⟩ := ra.flt_inv; obtain ⟨u, rfl, hu⟩ := rb.flt_inv
  exact PyProof.Rows.mul_float ⟨Kp.tok _ _, _, rep_flt l.pos, q⟩
theorem BO_div_ff {a b : UInt64} {Q : D → Prop} (hb : Float64.isZero b = false) (q : Q (.flt (Float64.div a b))) : BO prog w A .Div (.flt a) (.flt b) Q := fun X s va vb l ra rb => by
  obtain ⟨t, rfl, ht⟩ := ra.flt_inv; obtain ⟨u, rfl, hu⟩ := rb.flt_inv
  exact AutoFloatOps.truediv_1 (by simp [hb]) ⟨Kp.tok _ _, _, rep_flt l.pos, q⟩
theorem BO_mod_ff {a b : UInt64} {Q : D → Prop} (hb : Float64.isZero b = false) (q : Q (.flt (Float64.divmod a b).2)) : BO prog w A .Mod (.flt a) (.flt b) Q := fun X s va vb l ra rb => by
  obtain ⟨t, rfl, ht⟩ := ra.flt_inv; obtain ⟨u, rfl, hu⟩ := rb.flt_inv
  exact AutoFloatOps.mod_1 (by simp [hb]) ⟨Kp.tok _ _, _, rep_flt l.pos, q⟩
theorem BO_mul_fi {a : UInt64} {b : Int} {Q : D → Prop} (hfit : b.natAbs < 2 ^ 1023) (q : Q (.flt (Float64.mul a (Float64.ofInt b)))) : BO prog w A .Mult (.flt a) (.int b) Q := fun X s va vb l ra rb => by
  obtain ⟨t, rfl, ht⟩ := ra.flt_inv; obtain ⟨u, rfl⟩ := rb.int_inv
  exact PyProof.Rows.mul_fi_fits hfit ⟨Kp.tok _ _, _, rep_flt l.pos, q⟩
theorem UO_neg_i {a : Int} {Q : D → Prop} (q : Q (.int (-a))) : UO prog w A .USub (.int a) Q := fun X s va l ra => by
  obtain ⟨t, rfl⟩ := ra.int_inv
  exact PyProof.Rows.neg_int ⟨Kp.tok _ _, _, rep_int, q⟩

-- comparisons
theorem CO_lt_ii {a b : Int} {Q : Bool → Prop} (q : Q (decide (a < b))) : CO prog w B A .Lt (.int a) (.int b) Q := fun X s va vb l ra rb => by
  obtain ⟨t, rfl⟩ := ra.int_inv; obtain ⟨u, rfl⟩ := rb.int_inv
  exact PyProof.Rows.lt_int ⟨Kp.refl _, _, rfl, q⟩
theorem CO_gt_ii {a b : Int} {Q : Bool → Prop} (q : Q (decide (b < a))) : CO prog w B A .Gt (.int a) (.int b) Q := fun X s va vb l ra rb => by
  obtain ⟨t, rfl⟩ := ra.int_inv; obtain ⟨u, rfl⟩ := rb.int_inv
  exact PyProof.Rows.gt_int ⟨Kp.refl _, _, rfl, q⟩
theorem CO_eq_ii {a b : Int} {Q : Bool → Prop} (q : Q (a == b)) : CO prog w B A .Eq (.int a) (.int b) Q := fun X s va vb l ra rb => by
  obtain ⟨t, rfl⟩ := ra.int_inv; obtain ⟨u, rfl⟩ := rb.int_inv
  exact PyProof.Rows.eq_int ⟨Kp.refl _, _, rfl, q⟩
theorem CO_ne_ii {a b : Int} {Q : Bool → Prop} (q : Q (a != b)) : CO prog w B A .NotEq (.int a) (.int b) Q := fun X s va vb l ra rb => by
  obtain ⟨t, rfl⟩ := ra.int_inv; obtain ⟨u, rfl⟩ := rb.int_inv
  exact PyProof.Rows.ne_int ⟨Kp.refl _, _, rfl, q⟩
theorem CO_lt_ff {a b : UInt64} {Q : Bool → Prop} (q : Q (Float64.cmp a b == some .lt)) : CO prog w B A .Lt (.flt a) (.flt b) Q := fun X s va vb l ra rb => by
  obtain ⟨t, rfl, ht⟩ := ra.flt_inv; obtain ⟨u, rfl, hu⟩ := rb.flt_inv
  exact AutoFloatOps.lt_0 ⟨Kp.refl _, _, rfl, q⟩
theorem CO_le_ff {a b : UInt64} {Q : Bool → Prop} (q : Q (Float64.cmp a b == some .lt || Float64.cmp a b == some .eq)) : CO prog w B A .LtE (.flt a) (.flt b) Q := fun X s va vb l ra rb => by
  obtain ⟨t, rfl, ht⟩ := ra.flt_inv; obtain ⟨u, rfl, hu⟩ := rb.flt_inv
  exact AutoFloatOps.le_0 ⟨Kp.refl _, _, rfl, q⟩
theorem CO_eq_ff {a b : UInt64} {Q : Bool → Prop} (q : Q (Float64.cmp a b == some .eq)) : CO prog w B A .Eq (.flt a) (.flt b) Q := fun X s va vb l ra rb => by
  obtain ⟨t, rfl, ht⟩ := ra.flt_inv; obtain ⟨u, rfl, hu⟩ := rb.flt_inv
  exact AutoFloatOps.eq_0 ⟨Kp.refl _, _, rfl, q⟩
theorem CO_ne_ff {a b : UInt64} {Q : Bool → Prop} (q : Q (Float64.cmp a b != some .eq)) : CO prog w B A .NotEq (.flt a) (.flt b) Q := fun X s va vb l ra rb => by
  obtain ⟨t, rfl, ht⟩ := ra.flt_inv; obtain ⟨u, rfl, hu⟩ := rb.flt_inv
  exact AutoFloatOps.ne_0 ⟨Kp.refl _, _, rfl, q⟩

-- truth
theorem TO_lst {ds : List D} {Q : Bool → Prop} (hfit : ds.length < 2 ^ 20) (q : Q (!ds.isEmpty)) : TO prog w A (.lst ds) Q := fun X s va l ra => by
  obtain ⟨a, vs, rfl, ha, hl, hr⟩ := ra.lst_inv
  have hlen := hr.length
  refine wpAny_truthy_list hl.isList (by simp; omega) ?_
  have e : (!ds.isEmpty) = !vs.toArray.isEmpty := by
    cases ds <;> cases vs <;> simp_all
  first
    | (refine ⟨Kp.tok _ _ (by show s.toks ≤ s.toks + 1 + 1; omega), ?_⟩; simpa [e] using q)
    | (refine ⟨Kp.refl _, ?_⟩; simpa [e] using q)

-- lists and tuples
theorem rep_new_list {s : Shared} {X : List Addr} {ds : List D} {vs : List Value} (l : Live X s) (r : Reps s.heap X ds vs) :
    Rep (s.heap.push { cls := .type "list", data := .seq vs.toArray }) X (.lst ds) (.ref s.heap.objs.size) :=
  rep_lst l.fresh ⟨0, Heap.get?_push_size _ rfl⟩ (r.keeps fun _ _ e => Heap.get?_push_of_some _ e)
theorem rep_new_tuple {s : Shared} {X : List Addr} {ds : List D} {vs : List Value} (l : Live X s) (r : Reps s.heap X ds vs) :
    Rep (s.heap.push { cls := .type "tuple", data := .seq vs.toArray }) X (.tup ds) (.ref s.heap.objs.size) :=
  rep_tup l.fresh ⟨0, Heap.get?_push_size _ rfl⟩ (r.keeps fun _ _ e => Heap.get?_push_of_some _ e)

theorem BO_add_ll {ds es : List D} {Q : D → Prop} (hsz : ds.length + es.length ≤ 2 ^ 24) (q : Q (.lst (ds ++ es))) : BO prog w A .Add (.lst ds) (.lst es) Q := fun X s va vb l ra rb => by
  obtain ⟨a, vs, rfl, ha, hl, hr⟩ := ra.lst_inv; obtain ⟨b, ws, rfl, hb, hl', hr'⟩ := rb.lst_inv
  obtain ⟨n, ho⟩ := hl; obtain ⟨n', ho'⟩ := hl'
  refine P.add_list ho ho' ?_ (by simp [hr.length, hr'.length, sizeLine]; exact hsz)
  have e : vs.toArray ++ ws.toArray = (vs ++ ws).toArray := by simp
  rw [e]
  exact ⟨Kp.push _ _, _, rep_new_list l (hr.append hr'), q⟩
theorem BO_add_tt {ds es : List D} {Q : D → Prop} (h1 : ds ≠ []) (h2 : es ≠ []) (hsz : ds.length + es.length ≤ 2 ^ 24) (q : Q (.tup (ds ++ es))) : BO prog w A .Add (.tup ds) (.tup es) Q := fun X s va vb l ra rb => by
  obtain ⟨a, vs, rfl, ha, hl, hr⟩ := ra.tup_inv; obtain ⟨b, ws, rfl, hb, hl', hr'⟩ := rb.tup_inv
  obtain ⟨n, ho⟩ := hl; obtain ⟨n', ho'⟩ := hl'
  have e1 := hr.length; have e2 := hr'.length
  refine P.add_tuple ho ho' ?_ ?_ ?_ (by simp [hr.length, hr'.length, sizeLine]; exact hsz)
  · cases ds <;> cases vs <;> simp_all
  · cases es <;> cases ws <;> simp_all
  have e : vs.toArray ++ ws.toArray = (vs ++ ws).toArray := by simp
  rw [e]
  exact ⟨Kp.push _ _, _, rep_new_tuple l (hr.append hr'), q⟩

end
end Mine

end
section
open PySem PySem.W PySem.Calls PyProof.Rows
namespace Mine

section
variable {prog : Program} {w : World} {B : Shared} {A : Around} {env : Env} {σ : Store}

/-- expressions in order -/
noncomputable def WEs (prog : Program) (w : World) (B : Shared) (A : Around) (env : Env) (σ : Store) : List Expr → (List D → Prop) → Prop
  | [], Q => Q []
  | e :: rest, Q => WE prog w B A env σ e (fun d => WEs prog w B A env σ rest (fun ds => Q (d :: ds)))

noncomputable def noStar : List Expr → Bool
  | [] => true
  | .Starred _ _ :: _ => false
  | _ :: rest => noStar rest

theorem starEach_plain {e : Expr} {rest : List Expr} (h : noStar (e :: rest) = true) : starEach (e :: rest) env = (false, eval e env) :: starEach rest env ∧ noStar rest = true := by
  cases e <;> first | (simp [noStar] at h; done) | exact ⟨rfl, by simpa [noStar] using h⟩

theorem WEs.wp {O Hd : List Addr} {pos : Pos} : ∀ (es : List Expr) (Q : List D → Prop) (s : Shared), noStar es = true → WEs prog w B A env σ es Q → Inv B O Hd env σ s →
    wpAny (model prog w) A (spliced (backTo pos (starEach es env))) (fun vs s' => Kp s s' ∧ ∃ ds, Reps s'.heap (O ++ Hd) ds vs ∧ Q ds) no s
  | [], Q, s, _, h, I => spliced_nil ⟨Kp.refl _, [], rfl, h⟩
  | e :: rest, Q, s, hn, h, I => by
    obtain ⟨he, hr⟩ := starEach_plain (env := env) hn
    rw [he]
    show wpAny _ _ (spliced ((false, eval e env) :: backTo pos (starEach rest env))) _ _ s
    refine spliced_cons (wpAny_mono (h O Hd s I) (fun v s₁ ⟨k₁, d, r, h₁⟩ => ?_) fun _ _ f => f)
    refine wpAny_mono (WEs.wp rest _ s₁ hr h₁ (I.keeps k₁)) (fun vs s₂ ⟨k₂, ds, rs, q⟩ => ?_) fun _ _ f => f
    exact ⟨k₁.trans k₂, d :: ds, ⟨v, vs, rfl, r.keeps k₂.get, rs⟩, q⟩

theorem WEs.any {pos : Pos} : ∀ (es : List Expr), noStar es = true → (backTo pos (starEach es env)).any (·.1) = false
  | [], _ => rfl
  | e :: rest, hn => by
    obtain ⟨he, hr⟩ := starEach_plain (env := env) hn
    rw [he]
    show (false || (backTo pos (starEach rest env)).any (·.1)) = false
    rw [WEs.any rest hr]; rfl

theorem WE_list {es : List Expr} {pos : Pos} {Q : D → Prop} (h : WEs prog w B A env σ es (fun ds => ds.length ≤ 2 ^ 24 ∧ Q (.lst ds))) (hn : noStar es = true := by rfl) : WE prog w B A env σ (.List es pos) Q := fun O Hd s I => by
  refine List_ (wpAny_mono (WEs.wp es _ s hn h I) (fun vs s₁ ⟨k₁, ds, rs, hsz, q⟩ => ?_) fun _ _ f => f)
  exact wpAny_newObj_type ⟨k₁.trans (Kp.push _ _), _, rep_new_list (I.keeps k₁).lives rs, q⟩ (by show vs.toArray.size ≤ sizeLine; rw [List.size_toArray, rs.length]; exact hsz)
theorem WE_tuple {es : List Expr} {n : Nat} {pos : Pos} {Q : D → Prop} (h : WEs prog w B A env σ es (fun ds => ds.length ≤ 2 ^ 24 ∧ Q (.tup ds))) (hn : noStar es = true := by rfl) : WE prog w B A env σ (.Tuple es n pos) Q := fun O Hd s I => by
  refine Tuple_ (wpAny_mono (WEs.wp es _ s hn h I) (fun vs s₁ ⟨k₁, ds, rs, hsz, q⟩ => ?_) fun _ _ f => f)
  exact wpAny_newObj_type ⟨k₁.trans (Kp.push _ _), _, rep_new_tuple (I.keeps k₁).lives rs, q⟩ (by show vs.toArray.size ≤ sizeLine; rw [List.size_toArray, rs.length]; exact hsz)

/-- an item at a place -/
noncomputable def IO (prog : Program) (w : World) (A : Around) (a b : D) (Q : D → Prop) : Prop :=
  ∀ X s va vb, Live X s → Rep s.heap X a va → Rep s.heap X b vb → ∃ T id, s.TypeIs va T ∧ typeLookup (.type T) "__getitem__" = pure (some (.builtin id)) ∧
    wpAny (model prog w) A (getItem va vb) (fun v s' => Kp s s' ∧ ∃ d, Rep s'.heap X d v ∧ Q d) no s

theorem WE_item {value slice : Expr} {pos : Pos} {Q : D → Prop} (h : WE prog w B A env σ value (fun a => WE prog w B A env σ slice (fun b => IO prog w A a b Q)))
    (hs : ∀ o i, subscripted slice false o i = operate [o, i] (getItem o i) := by intro _ _; with_unfolding_all rfl) : WE prog w B A env σ (.Subscript value slice pos) Q := fun O Hd s I => by
  refine Subscript_ (wpAny_mono (h O Hd s I) (fun va s₁ ⟨k₁, a, ra, h₁⟩ => ?_) fun _ _ f => f.elim)
  refine wpAny_mono (h₁ O Hd s₁ (I.keeps k₁)) (fun vb s₂ ⟨k₂, b, rb, h₂⟩ => ?_) fun _ _ f => f.elim
  obtain ⟨T, id, hT, hl, hg⟩ := h₂ _ s₂ va vb (I.keeps (k₁.trans k₂)).lives (ra.keeps k₂.get) rb
  exact tail_any hT hl (wpAny_mono hg (fun v s' ⟨k₃, d, rd, q⟩ => ⟨(k₁.trans k₂).trans k₃, d, rd, q⟩) fun _ _ f => f) (hs va vb)

theorem isTup_getitem_lookup : typeLookup (.type "tuple") "__getitem__" = pure (some (.builtin "tuple.__getitem__")) := F.slot_tuple_getitem.lookup
theorem IO_li {ds : List D} {i : Int} {d : D} {Q : D → Prop} (h0 : 0 ≤ i) (hi : ds[i.toNat]? = some d) (hfit : i < 2 ^ 63) (q : Q d) : IO prog w A (.lst ds) (.int i) Q := fun X s va vb l ra rb => by
  obtain ⟨a, vs, rfl, ha, hl, hr⟩ := ra.lst_inv; obtain ⟨u, rfl⟩ := rb.int_inv
  obtain ⟨v, hv, rv⟩ := hr.at hi
  exact ⟨"list", _, hl.isList.typeIs, list_getitem_lookup, wpAny_getItem_list hl.isList h0 hfit (by simpa using hv) ⟨Kp.refl _, d, rv, q⟩⟩
theorem IO_ti {ds : List D} {i : Int} {d : D} {Q : D → Prop} (h0 : 0 ≤ i) (hi : ds[i.toNat]? = some d) (hfit : i < 2 ^ 63) (q : Q d) : IO prog w A (.tup ds) (.int i) Q := fun X s va vb l ra rb => by
  obtain ⟨a, vs, rfl, ha, hl, hr⟩ := ra.tup_inv; obtain ⟨u, rfl⟩ := rb.int_inv
  obtain ⟨v, hv, rv⟩ := hr.at hi
  obtain ⟨n, ho⟩ := id hl
  have hlt : i.toNat < vs.length := by
    rcases Nat.lt_or_ge i.toNat vs.length with h | h
    · exact h
    · rw [List.getElem?_eq_none h] at hv; cases hv
  refine ⟨"tuple", _, hl.isTuple.typeIs, isTup_getitem_lookup, P.getItem_tuple (k := i.toNat) ho (by omega) hfit ?_ (by simpa using hv) ⟨Kp.refl _, d, rv, q⟩⟩
  simp [seqIndex?]; omega

/-- a bound of a cut -/
noncomputable def WP (prog : Program) (w : World) (B : Shared) (A : Around) (env : Env) (σ : Store) : Option Expr → (Option Int → Prop) → Prop
  | none, Q => Q none
  | some e, Q => WE prog w B A env σ e (fun d => ∃ i, d = .int i ∧ Q (some i))

theorem WP.wp {O Hd : List Addr} {s : Shared} {e : Option Expr} {Q : Option Int → Prop} (h : WP prog w B A env σ e Q) (I : Inv B O Hd env σ s) :
    wpAny (model prog w) A (valueOrNone (evalOpt e env)) (fun v s' => Kp s s' ∧ ∃ i, IsPart v i ∧ Q i) no s := by
  cases e with
  | none => exact wpAny_pure ⟨Kp.refl _, none, .none, h⟩
  | some e =>
    refine wpAny_mono (h O Hd s I) (fun v s' ⟨k, d, r, i, e, q⟩ => ?_) fun _ _ f => f
    subst e
    obtain ⟨t, rfl⟩ := r.int_inv
    exact ⟨k, some i, .int _ _, q⟩

noncomputable def cut {α : Type} (xs : List α) (lo hi : Option Int) : List α :=
  (xs.drop (lo.elim 0 (clipAt xs.length))).take (hi.elim xs.length (clipAt xs.length) - lo.elim 0 (clipAt xs.length))

theorem WE_cut {value : Expr} {lo hi : Option Expr} {p pos : Pos} {Q : D → Prop}
    (h : WE prog w B A env σ value (fun a => WP prog w B A env σ lo (fun l => WP prog w B A env σ hi (fun u => ∃ ds, a = .lst ds ∧ ds.length ≤ 2 ^ 24 ∧ Q (.lst (cut ds l u)))))) :
    WE prog w B A env σ (.Subscript value (.Slice lo hi none p) pos) Q := fun O Hd s I => by
  refine Subscript_ (wpAny_mono (h O Hd s I) (fun va s₁ ⟨k₁, a, ra, h₁⟩ => ?_) fun _ _ f => f.elim)
  have I₁ := I.keeps k₁
  show wpAny _ _ (do
    let l ← valueOrNone (evalOpt lo env)
    let u ← holding [l] (valueOrNone (evalOpt hi env))
    let s ← holding [l, u] (valueOrNone (evalOpt none env))
    newFields "slice" [l, u, s]) _ _ s₁
  refine wpAny_bind (wpAny_mono (WP.wp h₁ I₁) (fun vl s₂ ⟨k₂, li, pl, h₂⟩ => ?_) fun _ _ f => f.elim)
  have I₂ := I₁.keeps k₂
  refine wpAny_bind (wpAny_holding (wpAny_mono (WP.wp h₂ I₂) (fun vu s₃ ⟨k₃, ui, pu, ds, hd, hsz, q⟩ => ?_) fun _ _ f => f.elim))
  have I₃ := I₂.keeps k₃
  subst hd
  refine wpAny_bind (wpAny_holding (wpAny_pure ?_))
  refine wpAny_newObj_type (T := "slice") (data := .fields #[vl, vu, .none]) ?_ (by simp [sizeOk, sizeLine])
  obtain ⟨a, vs, rfl, ha, hl, hr⟩ := (ra.keeps (k₂.trans k₃).get).lst_inv
  have hl' := hl.at (h' := s₃.heap.push { cls := .type "slice", data := .fields #[vl, vu, .none] }) fun o e => Heap.get?_push_of_some _ e
  refine tail_any (T := "list") (ops := [.ref s₃.heap.objs.size, .ref a]) (Heap.IsList.typeIs (s := { s₃ with heap := s₃.heap.push { cls := .type "slice", data := .fields #[vl, vu, .none] } }) hl'.isList) list_getitem_lookup
    (wpAny_getItem_list_slice (st := none) hl'.isList (Heap.IsSliceOf.new ..) pl pu .none (by simp) ?_ (by simp [sizeLine, hr.length]; exact hsz)) (by with_unfolding_all rfl)
  have L4 : Live (O ++ Hd) { s₃ with heap := s₃.heap.push { cls := .type "slice", data := .fields #[vl, vu, .none] } } := I₃.lives.keeps (Kp.push _ _)
  have e : slicePick vs.toArray li ui none = (cut vs li ui).toArray := by rw [slicePick_plain]; simp [cut]
  rw [e]
  have r' : Reps s₃.heap (O ++ Hd) (cut ds li ui) (cut vs li ui) := by
    unfold cut; rw [hr.length]; exact (hr.drop _).take _
  refine ⟨((k₁.trans k₂).trans k₃).trans ((Kp.push _ _).trans (Kp.push _ _)), _, ?_, q⟩
  exact rep_new_list (s := { s₃ with heap := s₃.heap.push { cls := .type "slice", data := .fields #[vl, vu, .none] } }) L4 (r'.keeps fun _ _ e => Heap.get?_push_of_some _ e)

/-- a call of a value with plain arguments -/
noncomputable def WC (prog : Program) (w : World) (B : Shared) (A : Around) (f : Value) (args : List D) (Q : D → Prop) : Prop :=
  ∀ X s vals, Grd B X s → Reps s.heap X args vals → wpAny (model prog w) A (call f vals) (fun v s' => Kp s s' ∧ ∃ d, Rep s'.heap X d v ∧ Q d) no s

theorem WC.mono {f : Value} {args : List D} {Q Q' : D → Prop} (h : WC prog w B A f args Q) (hq : ∀ d, Q d → Q' d) : WC prog w B A f args Q' := fun X s vals g r =>
  wpAny_mono (h X s vals g r) (fun v s' ⟨k, d, r, q⟩ => ⟨k, d, r, hq d q⟩) fun _ _ f => f

theorem WE_call_builtin {mg mb : Str → Option Value} (G : Base B mg mb) {x : Str} {p pos : Pos} {id : String} {e : Expr} {args : List Expr} {Q : D → Prop}
    (hx : env.kindOf x = some .globalImplicit) (hm : mg x = none) (hb : bootBuiltins x = some (.builtin id))
    (h : WEs prog w B A env σ (e :: args) (fun ds => WC prog w B A (.builtin id) ds Q))
    (hn : x ≠ "__name__" := by decide) (hd : (x == ("__debug__" : Str)) = false := by decide) (hs : noStar (e :: args) = true := by rfl) : WE prog w B A env σ (.Call (.Name x p) (e :: args) [] pos) Q := fun O Hd s I => by
  refine Call_Name rfl (load_builtin G I hx hm hb ?_ hn hd)
  refine callWith_builtin1 (wpAny_mono (WEs.wp (e :: args) _ s hs h I) (fun vs s₁ ⟨k₁, ds, rs, h₁⟩ => ?_) fun _ _ f => f.elim) (starEach_plain hs).1 (WEs.any args (starEach_plain (env := env) hs).2)
  exact wpAny_mono (h₁ _ s₁ vs (I.keeps k₁).grd rs) (fun v s' ⟨k, d, r, q⟩ => ⟨k₁.trans k, d, r, q⟩) fun _ _ f => f

theorem WE_call_type {mg mb : Str → Option Value} (G : Base B mg mb) {x : Str} {p pos : Pos} {T : String} {e : Expr} {args : List Expr} {Q : D → Prop}
    (hx : env.kindOf x = some .globalImplicit) (hm : mg x = none) (hb : bootBuiltins x = some (.type T))
    (h : WEs prog w B A env σ (e :: args) (fun ds => WC prog w B A (.type T) ds Q))
    (hn : x ≠ "__name__" := by decide) (hd : (x == ("__debug__" : Str)) = false := by decide) (hs : noStar (e :: args) = true := by rfl) : WE prog w B A env σ (.Call (.Name x p) (e :: args) [] pos) Q := fun O Hd s I => by
  refine Call_Name rfl (load_builtin G I hx hm hb ?_ hn hd)
  refine callWith_type1 (wpAny_mono (WEs.wp (e :: args) _ s hs h I) (fun vs s₁ ⟨k₁, ds, rs, h₁⟩ => ?_) fun _ _ f => f.elim) (starEach_plain hs).1 (WEs.any args (starEach_plain (env := env) hs).2)
  exact wpAny_mono (h₁ _ s₁ vs (I.keeps k₁).grd rs) (fun v s' ⟨k, d, r, q⟩ => ⟨k₁.trans k, d, r, q⟩) fun _ _ f => f

/-- a def of the module -/
structure FnAt (B : Shared) (mg : Str → Option Value) (x : Str) (f : Addr) (fd : FuncData) : Prop where
  at_ : mg x = some (.ref f)
  obj : ∃ o, B.heap.get? f = some o ∧ o.data = .func fd
  code : B.heap.CodeRec fd.code fd.qualname

theorem WE_call_def {mg mb : Str → Option Value} (G : Base B mg mb) {x : Str} {p pos : Pos} {f : Addr} {fd : FuncData} (H : FnAt B mg x f fd) {e : Expr} {args : List Expr} {Q : D → Prop}
    (hx : env.kindOf x = some .globalImplicit) (h : WEs prog w B A env σ (e :: args) (fun ds => WC prog w B A (.ref f) ds Q))
    (hd : (x == ("__debug__" : Str)) = false := by decide) (hs : noStar (e :: args) = true := by rfl) : WE prog w B A env σ (.Call (.Name x p) (e :: args) [] pos) Q := fun O Hd s I => by
  refine Call_Name rfl (load_global G I hx H.at_ ?_ hd)
  obtain ⟨o, ho, hdat⟩ := H.obj
  refine callWith_def hdat (wpAny_mono (WEs.wp (e :: args) _ s hs h I) (fun vs s₁ ⟨k₁, ds, rs, h₁⟩ => ?_) fun _ _ f => f.elim) (starEach_plain hs).1
  exact ⟨((I.keeps k₁).base _ _ ho).1, wpAny_mono (h₁ _ s₁ vs (I.keeps k₁).grd rs) (fun v s' ⟨k, d, r, q⟩ => ⟨k₁.trans k, d, r, q⟩) fun _ _ f => f⟩

end
end Mine

end
section
open PySem PySem.W PySem.Calls PyProof.Rows
namespace Mine

/-- an iterator at I that will hand out ds; it came behind s₀ -/
structure It (prog : Program) (w : World) (A : Around) (s₀ : Shared) (X : List Addr) (I : Addr) (ds : List D) (s : Shared) : Prop where
  walk : ∃ fp P St, Walks prog w A I fp [I] ds.length P St ∧ St 0 s.heap ∧ (∀ b, b ∈ fp → b ∉ X) ∧ (∀ b, b ∈ fp → ∃ o, s.heap.get? b = some o) ∧ (∀ i h, St i h → ∃ o, h.get? I = some o) ∧
    (∀ i v d, P i v → ds[i]? = some d → Rep s.heap (I :: X) d v) ∧
    (∀ i (s : Shared) v target (Q : Unit → Shared → Prop) (E : Value → Shared → Prop), St i s.heap → Q () s → wpAny (model prog w) A (letOwnedTupleGo target (.ref I) v) Q E s)
  fresh : s₀.heap.get? I = none

section
variable {prog : Program} {w : World} {B : Shared} {A : Around} {env : Env} {σ : Store}

theorem letOwned_ref {s : Shared} {I : Addr} {cls : String} {l v : Value} {vs : List Value} {target : Expr} {Q : Unit → Shared → Prop} {E : Value → Shared → Prop}
    (ho : ∃ o, s.heap.get? I = some o ∧ o.cls = .type cls ∧ o.data = .fields (l :: vs).toArray) (hl : ∀ a : Addr, l ≠ rawInt a ∨ ["enumerate", "zip", "dict_itemiterator", "dict_reverseitemiterator", "odict_iterator", "itertools.zip_longest", "itertools.pairwise"].contains cls = false) (h : Q () s) : wpAny (model prog w) A (letOwnedTupleGo target (.ref I) v) Q E s := by
  unfold letOwnedTupleGo
  split
  all_goals first
    | exact wpAny_pure h
    | skip
  all_goals
    cases v <;> try exact wpAny_pure h
  all_goals
    rename_i a
    obtain ⟨o, ho, hc, hd⟩ := ho
    refine wpAny_bind (wpAny_load ho ?_)
    rw [hc, hd]
    show wpAny _ A (if (["enumerate", "zip", "dict_itemiterator", "dict_reverseitemiterator", "odict_iterator", "itertools.zip_longest", "itertools.pairwise"].contains cls &&
        ((l :: vs).toArray : Array Value)[0]? == some (rawInt a)) = true then _ else _) Q E s
    rw [if_neg]
    · exact wpAny_pure h
    · intro hh
      rw [Bool.and_eq_true] at hh
      rcases hl a with h1 | h1
      · have := hh.2
        simp at this
        exact h1 this
      · rw [h1] at hh; exact absurd hh.1 (by decide)

theorem iter_lst {X : List Addr} {s : Shared} {ds : List D} {v : Value} (hA : A.handled = none) (l : Live X s) (r : Rep s.heap X (.lst ds) v) :
    wpAny (model prog w) A (pyIter v) (fun it s' => Kp s s' ∧ ∃ I, it = .ref I ∧ It prog w A s X I ds s') no s := by
  obtain ⟨a, vs, rfl, ha, hl, hr⟩ := r.lst_inv
  have hlen := hr.length
  obtain ⟨n, ho⟩ := id hl
  have hne : a ≠ s.heap.objs.size := Nat.ne_of_lt (Heap.lt_size ho)
  refine wpAny_pyIter_list hl.isList ?_
  have W := Walks.list (prog := prog) (w := w) hA s.heap.objs.size a hne vs.toArray
  rw [show vs.toArray.size = ds.length by rw [List.size_toArray]; exact hlen] at W
  refine ⟨Kp.push _ _, _, rfl, ⟨[s.heap.objs.size, a], (fun i v => vs.toArray[i]? = some v), (fun i h => h.IsListIter s.heap.objs.size a i ∧ h.IsList a vs.toArray), W,
    ⟨⟨_, Heap.get?_push_size _ rfl, rfl, rfl⟩, hl.isList.push _⟩, ?_, ?_, ?_, ?_, ?_⟩, ?_⟩
  · intro b hb
    simp at hb
    rcases hb with rfl | rfl
    · exact l.fresh
    · exact ha
  · intro b hb
    simp at hb
    rcases hb with rfl | rfl
    · exact ⟨_, Heap.get?_push_size _ rfl⟩
    · exact ⟨_, Heap.get?_push_of_some _ ho⟩
  · rintro i h ⟨⟨o, h1, _⟩, _⟩
    exact ⟨o, h1⟩
  · intro i v d hv hd
    obtain ⟨d', h1, h2⟩ := hr.get (i := i) (v := v) (by simpa using hv)
    rw [h1] at hd; cases hd
    exact h2.mono fun b o hb e => ⟨Heap.get?_push_of_some _ e, fun hm => by
      rcases List.mem_cons.mp hm with q | q
      · subst q; exact absurd (Heap.lt_size e) (Nat.lt_irrefl _)
      · exact hb q⟩
  · rintro i s' v target Q E ⟨⟨o, h1, h2, h3⟩, _⟩ hq
    exact letOwned_ref (cls := "list_iterator") ⟨o, h1, h2, h3⟩ (fun _ => .inr (by decide)) hq
  · cases e : s.heap.get? s.heap.objs.size with
    | none => rfl
    | some o => exact absurd (Heap.lt_size e) (Nat.lt_irrefl _)

theorem iter_tup {X : List Addr} {s : Shared} {ds : List D} {v : Value} (hA : A.handled = none) (l : Live X s) (r : Rep s.heap X (.tup ds) v) :
    wpAny (model prog w) A (pyIter v) (fun it s' => Kp s s' ∧ ∃ I, it = .ref I ∧ It prog w A s X I ds s') no s := by
  obtain ⟨a, vs, rfl, ha, hl, hr⟩ := r.tup_inv
  have hlen := hr.length
  obtain ⟨n, ho⟩ := id hl
  have hne : a ≠ s.heap.objs.size := Nat.ne_of_lt (Heap.lt_size ho)
  refine wpAny_pyIter_tuple hl.isTuple ?_
  have W := Walks.tuple (prog := prog) (w := w) hA s.heap.objs.size a hne vs.toArray
  rw [show vs.toArray.size = ds.length by rw [List.size_toArray]; exact hlen] at W
  refine ⟨Kp.push _ _, _, rfl, ⟨[s.heap.objs.size, a], (fun i v => vs.toArray[i]? = some v), (fun i h => h.IsTupleIter s.heap.objs.size a i ∧ h.IsTuple a vs.toArray), W,
    ⟨⟨_, Heap.get?_push_size _ rfl, rfl, rfl⟩, hl.isTuple.push _⟩, ?_, ?_, ?_, ?_, ?_⟩, ?_⟩
  · intro b hb
    simp at hb
    rcases hb with rfl | rfl
    · exact l.fresh
    · exact ha
  · intro b hb
    simp at hb
    rcases hb with rfl | rfl
    · exact ⟨_, Heap.get?_push_size _ rfl⟩
    · exact ⟨_, Heap.get?_push_of_some _ ho⟩
  · rintro i h ⟨⟨o, h1, _⟩, _⟩
    exact ⟨o, h1⟩
  · intro i v d hv hd
    obtain ⟨d', h1, h2⟩ := hr.get (i := i) (v := v) (by simpa using hv)
    rw [h1] at hd; cases hd
    exact h2.mono fun b o hb e => ⟨Heap.get?_push_of_some _ e, fun hm => by
      rcases List.mem_cons.mp hm with q | q
      · subst q; exact absurd (Heap.lt_size e) (Nat.lt_irrefl _)
      · exact hb q⟩
  · rintro i s' v target Q E ⟨⟨o, h1, h2, h3⟩, _⟩ hq
    exact letOwned_ref (cls := "tuple_iterator") ⟨o, h1, h2, h3⟩ (fun _ => .inr (by decide)) hq
  · cases e : s.heap.get? s.heap.objs.size with
    | none => rfl
    | some o => exact absurd (Heap.lt_size e) (Nat.lt_irrefl _)

/-- the items of a loop's source -/
noncomputable def WI (prog : Program) (w : World) (B : Shared) (A : Around) (env : Env) (σ : Store) (e : Expr) (Q : List D → Prop) : Prop :=
  ∀ O Hd s, Inv B O Hd env σ s → wpAny (model prog w) A (eval e env) (fun x s₁ => wpAny (model prog w) A (pyIter x) (fun it s₂ => Kp s s₂ ∧ ∃ I ds, it = .ref I ∧ It prog w A s (O ++ Hd) I ds s₂ ∧ Q ds) no s₁) no s

theorem It.older {X : List Addr} {I : Addr} {ds : List D} {s₀ s₁ s : Shared} (t : It prog w A s₁ X I ds s) (k : Kp s₀ s₁) : It prog w A s₀ X I ds s := by
  refine ⟨t.walk, ?_⟩
  cases e : s₀.heap.get? I with
  | none => rfl
  | some o => have := k.get _ _ e; rw [t.fresh] at this; cases this

theorem WI_lst {e : Expr} {Q : List D → Prop} (hA : A.handled = none) (h : WE prog w B A env σ e (fun d => ∃ ds, d = .lst ds ∧ Q ds)) : WI prog w B A env σ e Q := fun O Hd s I => by
  refine wpAny_mono (h O Hd s I) (fun v s₁ ⟨k₁, d, r, ds, e, q⟩ => ?_) fun _ _ f => f.elim
  subst e
  exact wpAny_mono (iter_lst hA (I.keeps k₁).lives r) (fun it s₂ ⟨k₂, I', e, t⟩ => ⟨k₁.trans k₂, I', ds, e, t.older k₁, q⟩) fun _ _ f => f
theorem WI_tup {e : Expr} {Q : List D → Prop} (hA : A.handled = none) (h : WE prog w B A env σ e (fun d => ∃ ds, d = .tup ds ∧ Q ds)) : WI prog w B A env σ e Q := fun O Hd s I => by
  refine wpAny_mono (h O Hd s I) (fun v s₁ ⟨k₁, d, r, ds, e, q⟩ => ?_) fun _ _ f => f.elim
  subst e
  exact wpAny_mono (iter_tup hA (I.keeps k₁).lives r) (fun it s₂ ⟨k₂, I', e, t⟩ => ⟨k₁.trans k₂, I', ds, e, t.older k₁, q⟩) fun _ _ f => f

/-- what a statement leaves -/
inductive Out where
  | next | brk | cont
  | ret (d : D)

noncomputable def FlowIs (h : Heap) (X : List Addr) : Out → Flow → Prop
  | .next, f => f = .next
  | .brk, f => f = .brk
  | .cont, f => f = .cont
  | .ret d, f => ∃ v, f = .ret v ∧ Rep h X d v

/-- what is not the frame's own stays -/
structure Ext (O : List Addr) (s : Shared) (O' : List Addr) (s' : Shared) : Prop where
  same : ∃ h tk, s' = { s with heap := h, toks := tk } ∧ s.toks ≤ tk
  keep : ∀ a o, a ∉ O → s.heap.get? a = some o → s'.heap.get? a = some o
  own : ∀ a, a ∈ O' → a ∈ O ∨ s.heap.get? a = none

theorem Ext.refl (O : List Addr) (s : Shared) : Ext O s O s := ⟨⟨s.heap, s.toks, rfl, Nat.le_refl _⟩, fun _ _ _ e => e, fun _ h => .inl h⟩
theorem Ext.of {O : List Addr} {s s' : Shared} (k : Kp s s') : Ext O s O s' := ⟨k.same, fun _ _ _ e => k.get _ _ e, fun _ h => .inl h⟩
theorem Ext.trans {O O' O'' : List Addr} {s s' s'' : Shared} (x : Ext O s O' s') (y : Ext O' s' O'' s'') : Ext O s O'' s'' := by
  refine ⟨?_, fun a o ha e => ?_, fun a ha => ?_⟩
  · obtain ⟨h, tk, rfl, ht⟩ := x.same
    obtain ⟨h', tk', rfl, ht'⟩ := y.same
    exact ⟨h', tk', rfl, Nat.le_trans ht ht'⟩
  · refine y.keep a o (fun h => ?_) (x.keep a o ha e)
    rcases x.own a h with h1 | h1
    · exact ha h1
    · rw [h1] at e; cases e
  · rcases y.own a ha with h1 | h1
    · exact x.own a h1
    · by_cases ha' : a ∈ O
      · exact .inl ha'
      · right
        cases e : s.heap.get? a with
        | none => rfl
        | some o => have := x.keep a o ha' e; rw [h1] at this; cases this

noncomputable def WS (prog : Program) (w : World) (B : Shared) (A : Around) (env : Env) (σ : Store) (b : List Stmt) (Q : Out → Store → Prop) : Prop :=
  ∀ O Hd s, Inv B O Hd env σ s → wpAny (model prog w) A (execs b env) (fun f s' => ∃ O' o σ', Ext O s O' s' ∧ Inv B O' Hd env σ' s' ∧ FlowIs s'.heap (O' ++ Hd) o f ∧ Q o σ') no s
noncomputable def WX (prog : Program) (w : World) (B : Shared) (A : Around) (env : Env) (σ : Store) (b : Stmt) (Q : Out → Store → Prop) : Prop :=
  ∀ O Hd s, Inv B O Hd env σ s → wpAny (model prog w) A (exec b env) (fun f s' => ∃ O' o σ', Ext O s O' s' ∧ Inv B O' Hd env σ' s' ∧ FlowIs s'.heap (O' ++ Hd) o f ∧ Q o σ') no s

theorem WS.mono {b : List Stmt} {Q Q' : Out → Store → Prop} (h : WS prog w B A env σ b Q) (hq : ∀ o σ', Q o σ' → Q' o σ') : WS prog w B A env σ b Q' := fun O Hd s I =>
  wpAny_mono (h O Hd s I) (fun v s' ⟨O', o, σ', x, i, f, q⟩ => ⟨O', o, σ', x, i, f, hq _ _ q⟩) fun _ _ f => f
theorem WX.mono {b : Stmt} {Q Q' : Out → Store → Prop} (h : WX prog w B A env σ b Q) (hq : ∀ o σ', Q o σ' → Q' o σ') : WX prog w B A env σ b Q' := fun O Hd s I =>
  wpAny_mono (h O Hd s I) (fun v s' ⟨O', o, σ', x, i, f, q⟩ => ⟨O', o, σ', x, i, f, hq _ _ q⟩) fun _ _ f => f

theorem WS_nil {Q : Out → Store → Prop} (q : Q .next σ) : WS prog w B A env σ [] Q := fun O Hd s I =>
  wpAny_execs_nil ⟨O, .next, σ, Ext.refl _ _, I, rfl, q⟩
theorem WS_cons {st : Stmt} {rest : List Stmt} {Q : Out → Store → Prop}
    (h : WX prog w B A env σ st (fun o σ' => match o with | .next => WS prog w B A env σ' rest Q | .brk => Q .brk σ' | .cont => Q .cont σ' | .ret d => Q (.ret d) σ')) : WS prog w B A env σ (st :: rest) Q := fun O Hd s I => by
  refine wpAny_execs_cons (wpAny_mono (h O Hd s I) (fun f s₁ ⟨O₁, o, σ₁, x, i, fl, q⟩ => ?_) fun _ _ f => f)
  cases o with
  | next =>
    cases fl
    exact wpAny_mono (q O₁ Hd s₁ i) (fun f s' ⟨O', o, σ', x', i', fl, q⟩ => ⟨O', o, σ', x.trans x', i', fl, q⟩) fun _ _ f => f
  | brk => cases fl; exact ⟨O₁, .brk, σ₁, x, i, rfl, q⟩
  | cont => cases fl; exact ⟨O₁, .cont, σ₁, x, i, rfl, q⟩
  | ret d => obtain ⟨v, rfl, r⟩ := fl; exact ⟨O₁, .ret d, σ₁, x, i, ⟨v, rfl, r⟩, q⟩

theorem WX_return {e : Expr} {pos : Pos} {Q : Out → Store → Prop} (h : WE prog w B A env σ e (fun d => Q (.ret d) σ)) : WX prog w B A env σ (.Return (some e) pos) Q := fun O Hd s I =>
  wpAny_Return_some (wpAny_mono (h O Hd s I) (fun v s' ⟨k, d, r, q⟩ => ⟨O, .ret d, σ, Ext.of k, I.keeps k, ⟨v, rfl, r⟩, q⟩) fun _ _ f => f)

theorem WX_if {t : Expr} {a b : List Stmt} {pos : Pos} {Q : Out → Store → Prop} (h : WT prog w B A env σ t (fun c => if c = true then WS prog w B A env σ a Q else WS prog w B A env σ b Q)) :
    WX prog w B A env σ (.If t a b pos) Q := fun O Hd s I => by
  refine wpAny_If (wpAny_mono (h O Hd s I) (fun c s₁ ⟨k, q⟩ => ?_) fun _ _ f => f)
  cases c with
  | true =>
    simp only [if_true] at q ⊢
    exact wpAny_mono (q O Hd s₁ (I.keeps k)) (fun f s' ⟨O', o, σ', x', i', fl, q⟩ => ⟨O', o, σ', (Ext.of k).trans x', i', fl, q⟩) fun _ _ f => f
  | false =>
    simp only [Bool.false_eq_true, if_false] at q ⊢
    exact wpAny_mono (q O Hd s₁ (I.keeps k)) (fun f s' ⟨O', o, σ', x', i', fl, q⟩ => ⟨O', o, σ', (Ext.of k).trans x', i', fl, q⟩) fun _ _ f => f

/-- a name that the frame may store -/
noncomputable def canStore (env : Env) (x : Str) : Prop := env.kindOf x = some .local ∨ (env.kindOf x = some .cell ∧ env.func.isSome = true ∧ (env.cells.lookup x).isSome = true)

theorem Inv.after {O Hd : List Addr} {s : Shared} (I : Inv B O Hd env σ s) {p : Addr} {h' : Heap} {tk : Nat} (hp : p ∈ O) (hs : Heap.SameBut p s.heap h') (hlive : ∃ o, h'.get? p = some o) (ht : s.toks ≤ tk) :
    (∀ d v, Rep s.heap (O ++ Hd) d v → Rep h' (O ++ Hd) d v) ∧ (∀ ds vs, Reps s.heap (O ++ Hd) ds vs → Reps h' (O ++ Hd) ds vs) ∧ Ext O s O { s with heap := h', toks := tk } ∧
    (∀ b o, B.heap.get? b = some o → h'.get? b = some o ∧ b ∉ O ++ Hd) ∧ (∀ a, a ∈ O ++ Hd → ∃ o, h'.get? a = some o) := by
  have key : ∀ a o, a ∉ O ++ Hd → s.heap.get? a = some o → h'.get? a = some o ∧ a ∉ O ++ Hd := fun a o ha e => ⟨(hs.2 a (fun q => ha (q ▸ List.mem_append_left _ hp))).trans e, ha⟩
  refine ⟨fun d v r => r.mono key, fun d v r => r.mono key, ⟨⟨h', tk, rfl, ht⟩, fun a o ha e => (hs.2 a (fun q => ha (q ▸ hp))).trans e, fun _ h => .inl h⟩,
    fun b o e => key b o (I.base b o e).2 (I.base b o e).1, fun a ha => ?_⟩
  by_cases q : a = p
  · rw [q]; exact hlive
  · obtain ⟨o, ho⟩ := I.live a ha; exact ⟨o, (hs.2 a q).trans ho⟩

theorem Inv.storeS {O Hd : List Addr} {s : Shared} (I : Inv B O Hd env σ s) {x : Str} {sl₀ : Slot} {v : Value} (hx : canStore env x) (r : SlotRep s.heap O Hd env sl₀ v)
    (one' : ∀ y z ds es, (σ.set x sl₀) y = some (.own ds) → (σ.set x sl₀) z = some (.own es) → y = z) {Q : Unit → Shared → Prop} {E : Value → Shared → Prop} {M : Model}
    (h : ∀ s', Ext O s O s' → Inv B O Hd env (σ.set x sl₀) s' → Q () s') : wpAny M A (storeName env x v) Q E s := by
  obtain ⟨m, cm, ns, cs, vs⟩ := I.vars
  rcases hx with hx | ⟨hx, hf, hl⟩
  · refine wpAny_storeName_local hx ns (fun h' hn hs => ?_) (by rw [I.kind]; rfl)
    obtain ⟨o, es, ep, ho, _⟩ := id hn
    obtain ⟨k1, k2, k3, k4, k5⟩ := I.after (tk := s.toks + 1) I.loc hs ⟨o, ho⟩ (Nat.le_succ _)
    refine h _ k3 ⟨?_, k4, k5, I.disj, I.kind, I.glob, I.blt, I.loc, I.cellIn, I.cellNe, I.cellInj, ⟨_, cm, hn, fun y c e => (cs y c e).sameBut hs (I.cellNe y c e), fun y sl e => ?_⟩, one'⟩
    · obtain ⟨h₀, tk, hs₀, h0⟩ := I.same; exact ⟨h', s.toks + 1, by rw [hs₀], Nat.succ_pos _⟩
    · unfold Store.set at e
      by_cases q : y = x
      · rw [if_pos q] at e
        cases e
        refine ⟨v, ?_, ?_⟩
        · unfold Holds; rw [q, hx]; simp
        · cases sl₀ with
          | dat d' => exact k1 d' v r
          | own ds =>
            obtain ⟨a, ws, h3, h4, h5, h6, h7, h8⟩ := r
            exact ⟨a, ws, h3, h4, h5, h6, h7.at fun o e => (hs.2 a h5).trans e, k2 _ _ h8⟩
      · rw [if_neg q] at e
        obtain ⟨v', h1, h2⟩ := vs y sl e
        refine ⟨v', ?_, ?_⟩
        · unfold Holds at h1 ⊢
          split <;> simp_all
        · cases sl with
          | dat d' => exact k1 d' v' h2
          | own ds =>
            obtain ⟨a, ws, h3, h4, h5, h6, h7, h8⟩ := h2
            exact ⟨a, ws, h3, h4, h5, h6, h7.at fun o e => (hs.2 a h5).trans e, k2 _ _ h8⟩
  · obtain ⟨c, hc⟩ := Option.isSome_iff_exists.mp hl
    refine wpAny_storeName_cell I.kind hx hc (cs x c hc) fun h' hv hs => ?_
    have hcO := I.cellIn hf x c hc
    obtain ⟨o, ho, hod⟩ := id hv
    obtain ⟨k1, k2, k3, k4, k5⟩ := I.after (tk := s.toks) hcO hs ⟨o, ho⟩ (Nat.le_refl _)
    refine h _ k3 ⟨?_, k4, k5, I.disj, I.kind, I.glob, I.blt, I.loc, I.cellIn, I.cellNe, I.cellInj, ⟨m, fun y => if y = x then some v else cm y, ns.sameBut hs (Ne.symm (I.cellNe x c hc)), fun y c' e => ?_, fun y sl e => ?_⟩, one'⟩
    · obtain ⟨h₀, tk, hs₀, h0⟩ := I.same; exact ⟨h', s.toks, by rw [hs₀], Nat.pos_of_ne_zero I.pos⟩
    · by_cases q : y = x
      · subst q; rw [hc] at e; cases e; simpa using hv
      · simp only [if_neg q]
        exact (cs y c' e).sameBut hs fun z => q (I.cellInj y x c' e (z ▸ hc))
    · unfold Store.set at e
      by_cases q : y = x
      · rw [if_pos q] at e
        cases e
        refine ⟨v, ?_, ?_⟩
        · unfold Holds; rw [q, hx]; simp [hl]
        · cases sl₀ with
          | dat d' => exact k1 d' v r
          | own ds =>
            obtain ⟨a, ws, h3, h4, h5, h6, h7, h8⟩ := r
            exact ⟨a, ws, h3, h4, h5, h6, h7.at fun o e => (hs.2 a (h6 x c hc)).trans e, k2 _ _ h8⟩
      · rw [if_neg q] at e
        obtain ⟨v', h1, h2⟩ := vs y sl e
        refine ⟨v', ?_, ?_⟩
        · unfold Holds at h1 ⊢
          split <;> simp_all
        · cases sl with
          | dat d' => exact k1 d' v' h2
          | own ds =>
            obtain ⟨a, ws, h3, h4, h5, h6, h7, h8⟩ := h2
            exact ⟨a, ws, h3, h4, h5, h6, h7.at fun o e => (hs.2 a (h6 x c hc)).trans e, k2 _ _ h8⟩

theorem Inv.store {O Hd : List Addr} {s : Shared} (I : Inv B O Hd env σ s) {x : Str} {d : D} {v : Value} (hx : canStore env x) (r : Rep s.heap (O ++ Hd) d v) {Q : Unit → Shared → Prop} {E : Value → Shared → Prop} {M : Model}
    (h : ∀ s', Ext O s O s' → Inv B O Hd env (σ.set x (.dat d)) s' → Q () s') : wpAny M A (storeName env x v) Q E s := by
  refine I.storeS (sl₀ := .dat d) hx r ?_ h
  intro y z ds es h1 h2
  unfold Store.set at h1 h2
  split at h1
  · cases h1
  · split at h2
    · cases h2
    · exact I.one y z ds es h1 h2

theorem WX_assign {x : Str} {pos' pos : Pos} {value : Expr} {Q : Out → Store → Prop} (hx : canStore env x) (h : WE prog w B A env σ value (fun d => Q .next (σ.set x (.dat d))))
    (hs : swapsWith value (some (.Name x pos')) pos.line env = pure false := by rfl) : WX prog w B A env σ (.Assign [.Name x pos'] value pos) Q := fun O Hd s I => by
  refine wpAny_Assign_Name (wpAny_mono (h O Hd s I) (fun v s₁ ⟨k, d, r, q⟩ => ?_) fun _ _ f => f) hs
  exact (I.keeps k).store hx r fun s' x' i' => ⟨O, .next, _, (Ext.of k).trans x', i', rfl, q⟩

end
end Mine

end
section
open PySem PySem.W PySem.Calls PyProof.Rows
namespace Mine

section
variable {prog : Program} {w : World} {B : Shared} {A : Around} {env : Env} {σ : Store}

/-- storing a datum into a target -/
noncomputable def WA (prog : Program) (w : World) (B : Shared) (A : Around) (env : Env) (σ : Store) (target : Expr) (d : D) (σ' : Store) : Prop :=
  ∀ O Hd s v, Inv B O Hd env σ s → Rep s.heap (O ++ Hd) d v → wpAny (model prog w) A (assign target env v) (fun _ s' => Ext O s O s' ∧ Inv B O Hd env σ' s') no s

theorem WA_name {x : Str} {pos : Pos} {d : D} (hx : canStore env x) : WA prog w B A env σ (.Name x pos) d (σ.set x (.dat d)) := fun O Hd s v I r =>
  assign_Name (I.store hx r fun s' x' i' => ⟨x', i'⟩)

noncomputable def setAll (σ : Store) : List Str → List D → Store
  | x :: xs, d :: ds => setAll (σ.set x (.dat d)) xs ds
  | _, _ => σ

noncomputable def namesOf : List Expr → Option (List Str)
  | [] => some []
  | .Name x _ :: rest => (namesOf rest).map (x :: ·)
  | _ :: _ => none

theorem draw_walk {I : Addr} {fp : List Addr} {n : Nat} {P : Nat → Value → Prop} {St : Nat → Heap → Prop} {E : Value → Shared → Prop} (W : Walks prog w A I fp [I] n P St) :
    ∀ (k i : Nat) (s : Shared) (Q : List Value → Shared → Prop), i + k = n → St i s.heap →
      (∀ vs h' tk, s.toks ≤ tk → vs.length = k → (∀ j v, vs[j]? = some v → P (i + j) v) → St n h' → (∀ b o, b ∉ [I] → s.heap.get? b = some o → h'.get? b = some o) → Q vs { s with heap := h', toks := tk }) →
      wpAny (model prog w) A (draw (.ref I) k) Q E s
  | 0, i, s, Q, hk, st, hQ => by
    show wpAny _ _ (pure []) Q E s
    refine wpAny_pure ?_
    have hi : i = n := by omega
    subst hi
    exact hQ [] s.heap s.toks (Nat.le_refl _) rfl (by simp) st fun _ _ _ e => e
  | k + 1, i, s, Q, hk, st, hQ => by
    show wpAny _ _ (pyNext (.ref I) >>= _) Q E s
    refine wpAny_bind (wpAny_with_toks (n := s.toks) (Nat.le_refl _) (W.item i s _ _ (by omega) st fun v h₁ tk₁ pv st₁ k₁ ht₁ => ?_))
    refine wpAny_bind (wpAny_holding (draw_walk W k (i + 1) _ _ (by omega) st₁ fun vs h₂ tk₂ ht₂ hl hp st₂ k₂ => wpAny_pure ?_))
    refine hQ (v :: vs) h₂ tk₂ (Nat.le_trans ht₁ ht₂) (by rw [List.length_cons, hl]) (fun j u hj => ?_) st₂ fun b o hb e => k₂ b o hb (k₁ b o hb e)
    cases j with
    | zero => simp at hj; subst hj; exact pv
    | succ j => simp at hj; have := hp j u hj; rwa [show i + (j + 1) = i + 1 + j by omega]

theorem reps_of_places {h : Heap} {X : List Addr} : ∀ (ds : List D) (vs : List Value), vs.length = ds.length → (∀ (j : Nat) v d, vs[j]? = some v → ds[j]? = some d → Rep h X d v) → Reps h X ds vs
  | [], vs, hl, _ => by
    have : vs = [] := by simpa using hl
    exact this
  | d :: ds, [], hl, _ => by simp at hl
  | d :: ds, v :: vs, hl, hp => ⟨v, vs, rfl, hp 0 v d rfl rfl, reps_of_places ds vs (by simpa using hl) fun j v' d' h1 h2 => hp (j + 1) v' d' (by simpa using h1) (by simpa using h2)⟩

theorem unpack_it {X : List Addr} {s : Shared} {ds : List D} {v : Value} {n : Nat} (hn : ds.length = n) (l : Live X s)
    (hni : ∀ Q : Bool → Shared → Prop, Q false s → wpAny (model prog w) A (notIterableAtAll v) Q no s)
    (hit : wpAny (model prog w) A (pyIter v) (fun it s' => Kp s s' ∧ ∃ I, it = .ref I ∧ It prog w A s X I ds s') no s) :
    wpAny (model prog w) A (unpackItems v n none) (fun vs s' => Kp s s' ∧ Reps s'.heap X ds vs) no s := by
  unfold unpackItems
  refine wpAny_bind (hni _ ?_)
  simp only [Bool.false_eq_true, if_false]
  refine wpAny_bind (wpAny_holding (wpAny_mono hit (fun it s₁ ⟨k₁, I, e, t⟩ => ?_) fun _ _ f => f))
  subst e
  obtain ⟨fp, P, St, W, st, hf, hf', hI, hP, hgo⟩ := t.walk
  have hIs : ∀ b o, s.heap.get? b = some o → b ∉ [I] := fun b o e hb => by
    simp at hb; subst hb; rw [t.fresh] at e; cases e
  refine wpAny_bind (wpAny_holding (draw_walk W n 0 s₁ _ (by omega) st fun vs h₂ tk₂ ht₂ hl hp st₂ k₂ => ?_))
  simp only [hl, Nat.lt_irrefl, if_false]
  refine wpAny_bind (wpAny_holding (wpAny_with_toks (n := tk₂) (Nat.le_refl _) (W.done _ _ _ st₂ fun h₃ tk₃ k₃ ht₃ => ?_)))
  simp only [Option.isSome_none, Bool.false_eq_true, if_false]
  refine wpAny_pure ⟨?_, ?_⟩
  · obtain ⟨h₁, tk₁, e₁, ht₁⟩ := k₁.same
    refine ⟨⟨h₃, tk₃, by rw [e₁], Nat.le_trans ht₁ (Nat.le_trans (by rw [e₁] at ht₂; exact ht₂) ht₃)⟩, fun b o e => k₃ b o (hIs b o e) (k₂ b o (hIs b o e) (k₁.get b o e))⟩
  · have r₁ : Reps s₁.heap (I :: X) ds vs := reps_of_places ds vs (by omega) fun j v d hv hd => hP _ v d (by simpa using hp j v hv) hd
    exact r₁.mono fun a o ha e => ⟨k₃ a o (fun q => ha (by simp at q; simp [q])) (k₂ a o (fun q => ha (by simp at q; simp [q])) e), fun q => ha (List.mem_cons_of_mem _ q)⟩

theorem notIter_list {a : Addr} {items : Array Value} {s : Shared} (hl : s.heap.IsList a items) : ∀ Q : Bool → Shared → Prop, Q false s → wpAny (model prog w) A (notIterableAtAll (.ref a)) Q no s := fun Q hq => by
  unfold notIterableAtAll
  exact wpAny_bind (wpAny_specialOf hl.typeIs F.slot_list_iter.lookup (wpAny_pure hq))
theorem notIter_tuple {a : Addr} {items : Array Value} {s : Shared} (hl : s.heap.IsTuple a items) : ∀ Q : Bool → Shared → Prop, Q false s → wpAny (model prog w) A (notIterableAtAll (.ref a)) Q no s := fun Q hq => by
  unfold notIterableAtAll
  exact wpAny_bind (wpAny_specialOf hl.typeIs F.slot_tuple_iter.lookup (wpAny_pure hq))

theorem unpack_lst {X : List Addr} {s : Shared} {ds : List D} {v : Value} {n : Nat} (hA : A.handled = none) (hn : ds.length = n) (l : Live X s) (r : Rep s.heap X (.lst ds) v) :
    wpAny (model prog w) A (unpackItems v n none) (fun vs s' => Kp s s' ∧ Reps s'.heap X ds vs) no s := by
  refine unpack_it hn l ?_ (iter_lst hA l r)
  obtain ⟨a, vs, rfl, ha, hl, hr⟩ := r.lst_inv
  exact notIter_list hl.isList
theorem unpack_tup {X : List Addr} {s : Shared} {ds : List D} {v : Value} {n : Nat} (hA : A.handled = none) (hn : ds.length = n) (l : Live X s) (r : Rep s.heap X (.tup ds) v) :
    wpAny (model prog w) A (unpackItems v n none) (fun vs s' => Kp s s' ∧ Reps s'.heap X ds vs) no s := by
  refine unpack_it hn l ?_ (iter_tup hA l r)
  obtain ⟨a, vs, rfl, ha, hl, hr⟩ := r.tup_inv
  exact notIter_tuple hl.isTuple

theorem assignEach_names : ∀ {elts : List Expr} {xs : List Str}, namesOf elts = some xs → (assignEach elts env).length = xs.length ∧ (assignEach elts env).findIdx? (·.1) = none ∧
    ∃ ps : List Pos, ps.length = xs.length ∧ (assignEach elts env).map (·.2) = (xs.zip ps).map fun p => assign (.Name p.1 p.2) env
  | [], xs, h => by cases h; exact ⟨rfl, rfl, [], rfl, rfl⟩
  | e :: rest, xs, h => by
    cases e with
    | Name x pos =>
      simp only [namesOf] at h
      cases hr : namesOf rest with
      | none => rw [hr] at h; cases h
      | some ys =>
        rw [hr] at h; cases h
        obtain ⟨h1, h2, ps, h3, h4⟩ := assignEach_names hr
        refine ⟨?_, ?_, pos :: ps, by simp [h3], ?_⟩
        · show (assignEach rest env).length + 1 = ys.length + 1
          rw [h1]
        · show List.findIdx? (·.1) ((false, assign (.Name x pos) env) :: assignEach rest env) = none
          rw [List.findIdx?_cons, h2]; rfl
        · show assign (.Name x pos) env :: (assignEach rest env).map (·.2) = _
          rw [h4]; rfl
    | _ => simp [namesOf] at h

theorem assign_order {Hd O : List Addr} : ∀ (xs : List Str) (ps : List Pos) (ds : List D) (vs : List Value) (σ : Store) (s : Shared), (∀ x ∈ xs, canStore env x) → ps.length = xs.length → ds.length = xs.length →
    Inv B O Hd env σ s → Reps s.heap (O ++ Hd) ds vs → wpAny (model prog w) A (assignInOrder ((xs.zip ps).map fun p => assign (.Name p.1 p.2) env) vs) (fun _ s' => Ext O s O s' ∧ Inv B O Hd env (setAll σ xs ds) s') no s
  | [], _, ds, vs, σ, s, _, _, hd, I, r => by
    have : ds = [] := by simpa using hd
    subst this
    show wpAny _ _ (pure ()) _ _ s
    exact wpAny_pure ⟨Ext.refl _ _, I⟩
  | x :: xs, [], ds, vs, σ, s, _, hp, _, _, _ => by simp at hp
  | x :: xs, p :: ps, [], vs, σ, s, _, _, hd, _, _ => by simp at hd
  | x :: xs, p :: ps, d :: ds, vs, σ, s, hc, hp, hd, I, ⟨v, vs', e, r, rs⟩ => by
    subst e
    show wpAny _ _ (do holding vs' (assign (.Name x p) env v); assignInOrder ((xs.zip ps).map fun p => assign (.Name p.1 p.2) env) vs') _ _ s
    refine wpAny_bind (wpAny_holding (assign_Name (I.store (hc x (by simp)) r fun s₁ x₁ i₁ => ?_)))
    have rs' : Reps s₁.heap (O ++ Hd) ds vs' := rs.mono fun a o ha e => ⟨x₁.keep a o (fun q => ha (List.mem_append_left _ q)) e, ha⟩
    refine wpAny_mono (assign_order xs ps ds vs' _ s₁ (fun y hy => hc y (by simp [hy])) (by simpa using hp) (by simpa using hd) i₁ rs') (fun _ s' ⟨x₂, i₂⟩ => ⟨x₁.trans x₂, i₂⟩) fun _ _ f => f

theorem WA_tuple {elts : List Expr} {k : Nat} {pos : Pos} {d : D} {ds : List D} {xs : List Str} (hA : A.handled = none) (hx : namesOf elts = some xs) (hc : ∀ x ∈ xs, canStore env x) (hd : d = .lst ds ∨ d = .tup ds) (hl : ds.length = xs.length) :
    WA prog w B A env σ (.Tuple elts k pos) d (setAll σ xs ds) := fun O Hd s v I r => by
  obtain ⟨h1, h2, ps, h3, h4⟩ := assignEach_names (env := env) hx
  rw [arm_assign_Tuple]
  refine wpAny_bind (wpAny_standAt ?_)
  unfold unpack
  rw [h1, h2, h4]
  have U : wpAny (model prog w) A (unpackItems v xs.length none) (fun vs s' => Kp s s' ∧ Reps s'.heap (O ++ Hd) ds vs) no s := by
    rcases hd with rfl | rfl
    · exact unpack_lst hA hl I.lives r
    · exact unpack_tup hA hl I.lives r
  refine wpAny_bind (wpAny_holding (wpAny_mono U (fun vs s₁ ⟨k₁, rs⟩ => ?_) fun _ _ f => f))
  exact wpAny_mono (assign_order xs ps ds vs σ s₁ hc h3 hl (I.keeps k₁) rs) (fun _ s' ⟨x₂, i₂⟩ => ⟨(Ext.of k₁).trans x₂, i₂⟩) fun _ _ f => f

theorem WX_assign_tuple {elts : List Expr} {k : Nat} {tpos pos : Pos} {value : Expr} {xs : List Str} {Q : Out → Store → Prop} (hA : A.handled = none) (hx : namesOf elts = some xs) (hc : ∀ x ∈ xs, canStore env x)
    (h : WE prog w B A env σ value (fun d => ∃ ds, (d = .lst ds ∨ d = .tup ds) ∧ ds.length = xs.length ∧ Q .next (setAll σ xs ds)))
    (hs : swapsWithSole [.Tuple elts k tpos] value pos.line env = pure false := by rfl)
    (hw : swappedStores [.Tuple elts k tpos] value env = pure none := by rfl) : WX prog w B A env σ (.Assign [.Tuple elts k tpos] value pos) Q := fun O Hd s I => by
  refine Assign_Tuple (wpAny_mono (h O Hd s I) (fun v s₁ ⟨k, d, r, ds, hd, hl, q⟩ => ?_) fun _ _ f => f) hs hw
  exact wpAny_mono (WA_tuple (prog := prog) (w := w) (B := B) (σ := σ) (k := 0) (pos := tpos) hA hx hc hd hl O Hd s₁ v (I.keeps k) r) (fun _ s' ⟨x', i'⟩ => ⟨O, .next, _, (Ext.of k).trans x', i', rfl, q⟩) fun _ _ f => f

-- a loop
noncomputable def LoopP (prog : Program) (w : World) (B : Shared) (A : Around) (env : Env) (target : Expr) (body : List Stmt) (Q : Out → Store → Prop) : List D → Store → Prop
  | [], σ => Q .next σ
  | d :: ds, σ => ∃ σ', WA prog w B A env σ target d σ' ∧ WS prog w B A env σ' body (fun o σ'' => match o with
      | .next => LoopP prog w B A env target body Q ds σ''
      | .cont => LoopP prog w B A env target body Q ds σ''
      | .brk => Q .next σ''
      | .ret v => Q (.ret v) σ'')

theorem Inv.hold {O Hd : List Addr} {s₀ s : Shared} {I : Addr} (J : Inv B O Hd env σ s₀) (k : Kp s₀ s) (hI : s₀.heap.get? I = none) (hI' : ∃ o, s.heap.get? I = some o) : Inv B O (I :: Hd) env σ s := by
  have J' := J.keeps k
  have ne : ∀ b o, s₀.heap.get? b = some o → b ≠ I := fun b o e q => by subst q; rw [hI] at e; cases e
  have nO : I ∉ O := fun h => by obtain ⟨o, ho⟩ := J.live I (List.mem_append_left _ h); exact ne _ _ ho rfl
  have key : ∀ a o, a ∉ O ++ Hd → s₀.heap.get? a = some o → s.heap.get? a = some o ∧ a ∉ O ++ I :: Hd := fun a o ha e => ⟨k.get a o e, fun q => by
    rcases List.mem_append.mp q with q | q
    · exact ha (List.mem_append_left _ q)
    · rcases List.mem_cons.mp q with q | q
      · exact ne a o e q
      · exact ha (List.mem_append_right _ q)⟩
  obtain ⟨m, cm, ns, cs, vs⟩ := J.vars
  refine ⟨J'.same, fun b o e => key b o (J.base b o e).2 (J.base b o e).1, fun a ha => ?_, fun a ha q => ?_, J.kind, J.glob, J.blt, J.loc, J.cellIn, J.cellNe, J.cellInj, ⟨m, cm, ns.keeps k.get, fun x c e => (cs x c e).keeps k.get, fun x sl e => ?_⟩, J.one⟩
  · rcases List.mem_append.mp ha with q | q
    · exact J'.live a (List.mem_append_left _ q)
    · rcases List.mem_cons.mp q with q | q
      · subst q; exact hI'
      · exact J'.live a (List.mem_append_right _ q)
  · rcases List.mem_cons.mp q with q | q
    · subst q; exact nO ha
    · exact J.disj a ha q
  · obtain ⟨v, h1, h2⟩ := vs x sl e
    refine ⟨v, h1, ?_⟩
    cases sl with
    | dat d => exact Rep.mono key h2
    | own ds => obtain ⟨a, ws, h3, h4, h5, h6, h7, h8⟩ := h2; exact ⟨a, ws, h3, h4, h5, h6, h7.at fun o e => k.get _ o e, h8.mono key⟩

theorem Inv.unhold {O Hd : List Addr} {s s' : Shared} {I : Addr} (J : Inv B O (I :: Hd) env σ s) (hf : env.func.isSome = true) (hn : I ∉ Hd) (hs : ∃ h tk, s' = { s with heap := h, toks := tk } ∧ s.toks ≤ tk) (k : ∀ b o, b ≠ I → s.heap.get? b = some o → s'.heap.get? b = some o) : Inv B O Hd env σ s' := by
  have sub : ∀ a, a ∉ O ++ I :: Hd → a ∉ O ++ Hd := fun a ha q => ha (by
    rcases List.mem_append.mp q with q | q
    · exact List.mem_append_left _ q
    · exact List.mem_append_right _ (List.mem_cons_of_mem _ q))
  have neI : ∀ a, a ∉ O ++ I :: Hd → a ≠ I := fun a ha q => ha (by subst q; simp)
  have neO : ∀ a, a ∈ O → a ≠ I := fun a ha q => J.disj a ha (by subst q; simp)
  have key : ∀ a o, a ∉ O ++ I :: Hd → s.heap.get? a = some o → s'.heap.get? a = some o ∧ a ∉ O ++ Hd := fun a o ha e => ⟨k a o (neI a ha) e, sub a ha⟩
  obtain ⟨m, cm, ns, cs, vs⟩ := J.vars
  have nL := neO _ J.loc
  refine ⟨?_, fun b o e => key b o (J.base b o e).2 (J.base b o e).1, fun a ha => ?_, fun a ha q => J.disj a ha (List.mem_cons_of_mem _ q), J.kind, J.glob, J.blt, J.loc, J.cellIn, J.cellNe, J.cellInj, ?_, J.one⟩
  · obtain ⟨h, tk, e, ht⟩ := hs; obtain ⟨h₀, tk₀, e₀, h0⟩ := J.same; exact ⟨h, tk, by rw [e, e₀], Nat.lt_of_lt_of_le (Nat.pos_of_ne_zero J.pos) ht⟩
  · rcases List.mem_append.mp ha with q | q
    · obtain ⟨o, ho⟩ := J.live a (List.mem_append_left _ q); exact ⟨o, k a o (neO a q) ho⟩
    · obtain ⟨o, ho⟩ := J.live a (List.mem_append_right _ (List.mem_cons_of_mem _ q)); exact ⟨o, k a o (fun z => hn (z ▸ q)) ho⟩
  · refine ⟨m, cm, ns.at' fun o e => k _ o nL e, fun x c e => ?_, fun x sl e => ?_⟩
    · obtain ⟨o, ho, hd⟩ := cs x c e; exact ⟨o, k c o (neO c (J.cellIn hf x c e)) ho, hd⟩
    · obtain ⟨v, h1, h2⟩ := vs x sl e
      refine ⟨v, h1, ?_⟩
      cases sl with
      | dat d => exact Rep.mono key h2
      | own ds => obtain ⟨a, ws, h3, h4, h5, h6, h7, h8⟩ := h2; exact ⟨a, ws, h3, h4, h5, h6, h7.at fun o e => k _ o (neO a h4) e, h8.mono key⟩

theorem Inv.mutHd {O Hd : List Addr} {s s' : Shared} {I : Addr} (J : Inv B O (I :: Hd) env σ s) (hf : env.func.isSome = true) (hn : I ∉ Hd) (hs : ∃ h tk, s' = { s with heap := h, toks := tk } ∧ s.toks ≤ tk) (hI : ∃ o, s'.heap.get? I = some o)
    (k : ∀ b o, b ≠ I → s.heap.get? b = some o → s'.heap.get? b = some o) : Inv B O (I :: Hd) env σ s' := by
  have neI : ∀ a, a ∉ O ++ I :: Hd → a ≠ I := fun a ha q => ha (by subst q; simp)
  have neO : ∀ a, a ∈ O → a ≠ I := fun a ha q => J.disj a ha (by subst q; simp)
  have key : ∀ a o, a ∉ O ++ I :: Hd → s.heap.get? a = some o → s'.heap.get? a = some o ∧ a ∉ O ++ I :: Hd := fun a o ha e => ⟨k a o (neI a ha) e, ha⟩
  obtain ⟨m, cm, ns, cs, vs⟩ := J.vars
  refine ⟨?_, fun b o e => key b o (J.base b o e).2 (J.base b o e).1, fun a ha => ?_, J.disj, J.kind, J.glob, J.blt, J.loc, J.cellIn, J.cellNe, J.cellInj, ?_, J.one⟩
  · obtain ⟨h, tk, e, ht⟩ := hs; obtain ⟨h₀, tk₀, e₀, h0⟩ := J.same; exact ⟨h, tk, by rw [e, e₀], Nat.lt_of_lt_of_le (Nat.pos_of_ne_zero J.pos) ht⟩
  · by_cases q : a = I
    · subst q; exact hI
    · obtain ⟨o, ho⟩ := J.live a ha; exact ⟨o, k a o q ho⟩
  · refine ⟨m, cm, ns.at' fun o e => k _ o (neO _ J.loc) e, fun x c e => ?_, fun x sl e => ?_⟩
    · obtain ⟨o, ho, hd⟩ := cs x c e; exact ⟨o, k c o (neO c (J.cellIn hf x c e)) ho, hd⟩
    · obtain ⟨v, h1, h2⟩ := vs x sl e
      refine ⟨v, h1, ?_⟩
      cases sl with
      | dat d => exact Rep.mono key h2
      | own ds => obtain ⟨a, ws, h3, h4, h5, h6, h7, h8⟩ := h2; exact ⟨a, ws, h3, h4, h5, h6, h7.at fun o e => k _ o (neO a h4) e, h8.mono key⟩

theorem WX_for {target iter : Expr} {body : List Stmt} {pos : Pos} {Q : Out → Store → Prop} (hf : env.func.isSome = true) (h : WI prog w B A env σ iter (fun ds => LoopP prog w B A env target body Q ds σ))
    (hs : ∀ x, foldedSetIterable iter env x = pure x := by intro _; rfl) : WX prog w B A env σ (.For target iter body [] pos) Q := fun O Hd s J => by
  refine wpAny_For (wpAny_mono (h O Hd s J) (fun x s₁ h₁ => wpAny_mono h₁ (fun it s₂ ⟨k₂, I, ds, e, t, L⟩ => ?_) fun _ _ f => f.elim) fun _ _ f => f.elim) hs
  subst e
  obtain ⟨fp, P, St, W, st, hfp, hfp', hI, hP, hgo⟩ := t.walk
  have nHd : I ∉ Hd := fun q => by obtain ⟨o, ho⟩ := J.live I (List.mem_append_right _ q); rw [t.fresh] at ho; cases ho
  have nO : I ∉ O := fun q => by obtain ⟨o, ho⟩ := J.live I (List.mem_append_left _ q); rw [t.fresh] at ho; cases ho
  have J₂ := J.hold k₂ t.fresh (hI 0 _ st)
  have hex : ∀ i d, ds[i]? = some d → i < ds.length := fun i d e => by
    rcases Nat.lt_or_ge i ds.length with h | h
    · exact h
    · rw [List.getElem?_eq_none h] at e; cases e
  refine codeAny_forLoop_any (fun n s' => ∃ i O' σ', n = ds.length + 1 - i ∧ i ≤ ds.length ∧ St i s'.heap ∧ Inv B O' (I :: Hd) env σ' s' ∧ Ext O s O' s' ∧ LoopP prog w B A env target body Q (ds.drop i) σ' ∧
      (∀ b ∈ fp, b ∉ O') ∧ (∀ i v d, P i v → ds[i]? = some d → Rep s'.heap (O' ++ I :: Hd) d v) ∧ (∀ b ∈ fp, ∃ o, s'.heap.get? b = some o)) ?_ (ds.length + 1) ⟨0, O, σ, by omega, by omega, st, J₂, Ext.of k₂, by simpa using L, fun b hb q => hfp b hb (List.mem_append_left _ q), ?_, hfp'⟩
  · rintro n s₃ ⟨i, O₃, σ₃, rfl, hi, st₃, J₃, x₃, L₃, hO₃, hP₃, hE₃⟩
    have keep3 : ∀ {h' : Heap} {tk : Nat}, (∀ b o, b ∉ [I] → s₃.heap.get? b = some o → h'.get? b = some o) → s₃.toks ≤ tk → Ext O s O₃ { s₃ with heap := h', toks := tk } := fun {h' tk} kk htk =>
      ⟨by obtain ⟨h₀, tk₀, e₀, ht₀⟩ := x₃.same; exact ⟨h', tk, by rw [e₀], Nat.le_trans ht₀ (by rw [e₀] at htk; exact htk)⟩, fun a o ha e => kk a o (fun q => by simp at q; subst q; rw [t.fresh] at e; cases e) (x₃.keep a o ha e), x₃.own⟩
    by_cases hlt : i < ds.length
    · refine wpAny_with_toks (n := s₃.toks) (Nat.le_refl _) (W.item i s₃ _ _ hlt st₃ fun v h₄ tk₄ pv st₄ k₄ ht₄ => ?_)
      have J₄ : Inv B O₃ (I :: Hd) env σ₃ { s₃ with heap := h₄, toks := tk₄ } := J₃.mutHd hf nHd ⟨_, _, rfl, ht₄⟩ (hI _ _ st₄) fun b o hb e => k₄ b o (by simpa using hb) e
      have hd : ds[i]? = some ds[i] := by simp [hlt]
      have r₃ := hP₃ i v _ pv hd
      have key : ∀ a o, a ∉ O₃ ++ I :: Hd → s₃.heap.get? a = some o → h₄.get? a = some o ∧ a ∉ O₃ ++ I :: Hd := fun a o ha e => ⟨k₄ a o (fun q => ha (by simp at q; subst q; simp)) e, ha⟩
      have r₄ : Rep h₄ (O₃ ++ I :: Hd) ds[i] v := r₃.mono key
      refine hgo (i + 1) _ v target _ _ st₄ ?_
      rw [List.drop_eq_getElem_cons hlt] at L₃
      obtain ⟨σ₅, wa, ws⟩ := L₃
      refine wpAny_mono (wa O₃ (I :: Hd) _ v J₄ r₄) (fun _ s₅ ⟨x₅, J₅⟩ => ?_) fun _ _ f => f.elim
      refine wpAny_mono (ws O₃ (I :: Hd) s₅ J₅) (fun f s₆ ⟨O₆, o, σ₆, x₆, J₆, fl, q⟩ => ?_) fun _ _ f => f.elim
      have x46 : Ext O₃ { s₃ with heap := h₄, toks := tk₄ } O₆ s₆ := x₅.trans x₆
      have xall : Ext O s O₆ s₆ := (keep3 k₄ ht₄).trans x46
      have again : LoopP prog w B A env target body Q (ds.drop (i + 1)) σ₆ → ∃ m, m < ds.length + 1 - i ∧ ∃ i' O' σ', m = ds.length + 1 - i' ∧ i' ≤ ds.length ∧ St i' s₆.heap ∧ Inv B O' (I :: Hd) env σ' s₆ ∧ Ext O s O' s₆ ∧
          LoopP prog w B A env target body Q (ds.drop i') σ' ∧ (∀ b ∈ fp, b ∉ O') ∧ (∀ i v d, P i v → ds[i]? = some d → Rep s₆.heap (O' ++ I :: Hd) d v) ∧ (∀ b ∈ fp, ∃ o, s₆.heap.get? b = some o) := fun L₆ => by
        have hfpo : ∀ b ∈ fp, ∃ o, h₄.get? b = some o := fun b hb => by
          obtain ⟨o, ho⟩ := hE₃ b hb
          by_cases hbI : b = I
          · subst hbI; exact hI _ _ st₄
          · exact ⟨o, k₄ b o (by simpa using hbI) ho⟩
        refine ⟨ds.length + 1 - (i + 1), by omega, i + 1, O₆, σ₆, rfl, by omega, ?_, J₆, xall, L₆, ?_, ?_, ?_⟩
        · exact W.frame _ _ _ st₄ fun b hb o e => x46.keep b o (hO₃ b hb) e
        · intro b hb q
          rcases x46.own b q with h1 | h1
          · exact hO₃ b hb h1
          · obtain ⟨o, ho⟩ := hfpo b hb; rw [ho] at h1; cases h1
        · intro j u d pu hd
          refine (hP₃ j u d pu hd).mono fun a o ha e => ?_
          have h4 := key a o ha e
          refine ⟨x46.keep a o (fun q => ha (List.mem_append_left _ q)) h4.1, fun q => ?_⟩
          rcases List.mem_append.mp q with q | q
          · rcases x46.own a q with h1 | h1
            · exact ha (List.mem_append_left _ h1)
            · have h4' := h4.1
              rw [show h₄.get? a = ({ s₃ with heap := h₄, toks := tk₄ } : Shared).heap.get? a from rfl, h1] at h4'; cases h4'
          · exact ha (List.mem_append_right _ q)
        · intro b hb
          obtain ⟨o, ho⟩ := hfpo b hb
          exact ⟨o, x46.keep b o (hO₃ b hb) ho⟩
      cases o with
      | next => cases fl; exact again q
      | cont => cases fl; exact again q
      | brk => cases fl; exact ⟨O₆, .next, σ₆, xall, J₆.unhold hf nHd ⟨s₆.heap, s₆.toks, rfl, Nat.le_refl _⟩ fun b o _ e => e, rfl, q⟩
      | ret d =>
        obtain ⟨v, rfl, r⟩ := fl
        refine ⟨O₆, .ret d, σ₆, xall, J₆.unhold hf nHd ⟨s₆.heap, s₆.toks, rfl, Nat.le_refl _⟩ fun b o _ e => e, ⟨v, rfl, r.mono fun a o ha e => ⟨e, fun q => ha ?_⟩⟩, q⟩
        rcases List.mem_append.mp q with q | q
        · exact List.mem_append_left _ q
        · exact List.mem_append_right _ (List.mem_cons_of_mem _ q)
    · have hi' : i = ds.length := by omega
      subst hi'
      refine wpAny_with_toks (n := s₃.toks) (Nat.le_refl _) (W.done s₃ _ _ st₃ fun h₄ tk₄ k₄ ht₄ => ?_)
      rw [List.drop_of_length_le (Nat.le_refl _)] at L₃
      refine wpAny_execs_nil ⟨O₃, .next, σ₃, keep3 k₄ ht₄, J₃.unhold hf nHd ⟨_, _, rfl, ht₄⟩ fun b o hb e => k₄ b o (by simpa using hb) e, rfl, L₃⟩
  · intro i v d pv hd
    refine (hP i v d pv hd).mono fun a o ha e => ⟨e, fun q => ha ?_⟩
    rcases List.mem_append.mp q with q | q
    · exact List.mem_cons_of_mem _ (List.mem_append_left _ q)
    · rcases List.mem_cons.mp q with q | q
      · subst q; simp
      · exact List.mem_cons_of_mem _ (List.mem_append_right _ q)
end
end Mine

end
section
open PySem PySem.W PySem.Calls PyProof.Rows
namespace Mine

noncomputable def OwnOnly (x : Str) (σ : Store) : Prop := ∀ y ds, σ y = some (.own ds) → y = x
noncomputable def NoOwn (σ : Store) : Prop := ∀ y ds, σ y ≠ some (.own ds)
theorem NoOwn.only {σ : Store} (h : NoOwn σ) (x : Str) : OwnOnly x σ := fun y ds e => absurd e (h y ds)
theorem NoOwn.set {σ : Store} (h : NoOwn σ) (x : Str) (d : D) : NoOwn (σ.set x (.dat d)) := fun y ds e => by
  unfold Store.set at e; split at e
  · cases e
  · exact h y ds e
theorem OwnOnly.set' {σ : Store} {x : Str} (h : OwnOnly x σ) (sl : Slot) : OwnOnly x (σ.set x sl) := fun z ds e => by
  unfold Store.set at e; split at e
  · rename_i q; exact q
  · exact h z ds e
theorem OwnOnly.frozen {σ : Store} {x : Str} (h : OwnOnly x σ) (d : D) : NoOwn (σ.set x (.dat d)) := fun z ds e => by
  unfold Store.set at e; split at e
  · cases e
  · rename_i q; exact q (h z ds e)

section
variable {prog : Program} {w : World} {B : Shared} {A : Around} {env : Env} {σ : Store}

/-- a new object that the frame takes for its own -/
theorem Inv.adopt {O Hd : List Addr} {s : Shared} (J : Inv B O Hd env σ s) (o : Obj) (ho : o.isFreed = false) : Inv B (s.heap.objs.size :: O) Hd env σ { s with heap := s.heap.push o } := by
  have fr := J.lives.fresh
  have k := Kp.push s o
  have J' := J.keeps k
  have key : ∀ a o', a ∉ O ++ Hd → s.heap.get? a = some o' → (s.heap.push o).get? a = some o' ∧ a ∉ s.heap.objs.size :: O ++ Hd := fun a o' ha e => ⟨k.get a o' e, fun q => by
    rcases List.mem_cons.mp q with q | q
    · subst q; exact absurd (Heap.lt_size e) (Nat.lt_irrefl _)
    · exact ha q⟩
  obtain ⟨m, cm, ns, cs, vs⟩ := J.vars
  refine ⟨J'.same, fun b o e => key b o (J.base b o e).2 (J.base b o e).1, fun a ha => ?_, fun a ha q => ?_, J.kind, J.glob, J.blt, List.mem_cons_of_mem _ J.loc, fun hf x c e => List.mem_cons_of_mem _ (J.cellIn hf x c e), J.cellNe, J.cellInj,
    ⟨m, cm, ns.keeps k.get, fun x c e => (cs x c e).keeps k.get, fun x sl e => ?_⟩, J.one⟩
  · rcases List.mem_cons.mp ha with q | q
    · subst q; exact ⟨o, Heap.get?_push_size _ ho⟩
    · exact J'.live a q
  · rcases List.mem_cons.mp ha with z | z
    · subst z; exact fr (List.mem_append_right _ q)
    · exact J.disj a z q
  · obtain ⟨v, h1, h2⟩ := vs x sl e
    refine ⟨v, h1, ?_⟩
    cases sl with
    | dat d => exact Rep.mono key h2
    | own ds => obtain ⟨a, ws, h3, h4, h5, h6, h7, h8⟩ := h2; exact ⟨a, ws, h3, List.mem_cons_of_mem _ h4, h5, h6, h7.at fun o e => k.get _ o e, h8.mono key⟩

theorem store_own {O Hd : List Addr} {s : Shared} {x : Str} {ds : List D} {vs : List Value} {Q : Unit → Shared → Prop} {E : Value → Shared → Prop} {M : Model} (hx : canStore env x) (ho : OwnOnly x σ) (J : Inv B O Hd env σ s) (rs : Reps s.heap (O ++ Hd) ds vs)
    (h : ∀ s', Ext O s (s.heap.objs.size :: O) s' → Inv B (s.heap.objs.size :: O) Hd env (σ.set x (.own ds)) s' → Q () s') :
    wpAny M A (storeName env x (.ref s.heap.objs.size)) Q E { s with heap := s.heap.push { cls := .type "list", data := .seq vs.toArray } } := by
  have J₁ := J.adopt { cls := .type "list", data := .seq vs.toArray } rfl
  have key : ∀ a o', a ∉ O ++ Hd → s.heap.get? a = some o' → (s.heap.push { cls := .type "list", data := .seq vs.toArray }).get? a = some o' ∧ a ∉ s.heap.objs.size :: O ++ Hd := fun a o' ha e => ⟨Heap.get?_push_of_some _ e, fun q => by
    rcases List.mem_cons.mp q with q | q
    · subst q; exact absurd (Heap.lt_size e) (Nat.lt_irrefl _)
    · exact ha q⟩
  obtain ⟨m, cm, ns, cs, _⟩ := J.vars
  refine J₁.storeS (sl₀ := .own ds) hx ⟨s.heap.objs.size, vs, rfl, by simp, ?_, ?_, ⟨0, Heap.get?_push_size _ rfl⟩, rs.mono key⟩ ?_ fun s' x' i' => h s' ?_ i'
  · exact Nat.ne_of_gt ns.lt
  · exact fun y c e => Nat.ne_of_gt (cs y c e).lt
  · intro y z ds' es h1 h2
    exact (ho.set' (.own ds) y ds' h1).trans (ho.set' (.own ds) z es h2).symm
  · have k := Kp.push s ({ cls := .type "list", data := .seq vs.toArray } : Obj)
    obtain ⟨h', tk, e, ht⟩ := x'.same
    refine ⟨⟨h', tk, by rw [e], ht⟩, fun a o ha e => x'.keep a o (fun q => ?_) (k.get a o e), fun a ha => ?_⟩
    · rcases List.mem_cons.mp q with q | q
      · subst q; exact absurd (Heap.lt_size e) (Nat.lt_irrefl _)
      · exact ha q
    · rcases List.mem_cons.mp ha with q | q
      · subst q
        right
        cases e : s.heap.get? s.heap.objs.size with
        | none => rfl
        | some o => exact absurd (Heap.lt_size e) (Nat.lt_irrefl _)
      · exact .inl q

/-- x = [..], to be appended to -/
theorem WX_assign_own {x : Str} {pos' lpos pos : Pos} {es : List Expr} {Q : Out → Store → Prop} (hx : canStore env x) (ho : OwnOnly x σ)
    (h : WEs prog w B A env σ es (fun ds => ds.length ≤ 2 ^ 24 ∧ Q .next (σ.set x (.own ds)))) (hn : noStar es = true := by rfl)
    (hs : swapsWith (.List es lpos) (some (.Name x pos')) pos.line env = pure false := by rfl) : WX prog w B A env σ (.Assign [.Name x pos'] (.List es lpos) pos) Q := fun O Hd s I => by
  refine wpAny_Assign_Name (List_ (wpAny_mono (WEs.wp es _ s hn h I) (fun vs s₁ ⟨k₁, ds, rs, hsz, q⟩ => ?_) fun _ _ f => f)) hs
  refine wpAny_newObj_type ?_ (by show vs.toArray.size ≤ sizeLine; rw [List.size_toArray, rs.length]; exact hsz)
  exact store_own hx ho (I.keeps k₁) rs fun s' x' i' => ⟨_, .next, _, (Ext.of k₁).trans x', i', rfl, q⟩

/-- the list that was built is data from here on -/
theorem Inv.freeze {O Hd : List Addr} {s : Shared} (J : Inv B O Hd env σ s) {x : Str} {ds : List D} (hx : σ x = some (.own ds)) (hf : env.func.isSome = true) : ∃ O', (∀ a ∈ O', a ∈ O) ∧ Inv B O' Hd env (σ.set x (.dat (.lst ds))) s := by
  obtain ⟨m, cm, ns, cs, vs⟩ := J.vars
  obtain ⟨v, hv, a, ws, h3, h4, h5, h6, h7, h8⟩ := vs x _ hx
  have sub : ∀ b, b ∈ O.filter (· != a) → b ∈ O := fun b hb => (List.mem_filter.mp hb).1
  have subX : ∀ b, b ∉ O ++ Hd → b ∉ O.filter (· != a) ++ Hd := fun b hb q => hb (by
    rcases List.mem_append.mp q with q | q
    · exact List.mem_append_left _ (sub b q)
    · exact List.mem_append_right _ q)
  have key : ∀ b o, b ∉ O ++ Hd → s.heap.get? b = some o → s.heap.get? b = some o ∧ b ∉ O.filter (· != a) ++ Hd := fun b o hb e => ⟨e, subX b hb⟩
  refine ⟨O.filter (· != a), sub, J.same, fun b o e => ⟨(J.base b o e).1, subX b (J.base b o e).2⟩, fun b hb => J.live b ?_, fun b hb => J.disj b (sub b hb), J.kind, J.glob, J.blt, ?_, fun hf y c e => ?_, J.cellNe, J.cellInj, ⟨m, cm, ns, cs, fun y sl e => ?_⟩, ?_⟩
  · rcases List.mem_append.mp hb with q | q
    · exact List.mem_append_left _ (sub b q)
    · exact List.mem_append_right _ q
  · exact List.mem_filter.mpr ⟨J.loc, by simpa using Ne.symm h5⟩
  · exact List.mem_filter.mpr ⟨J.cellIn hf y c e, by simpa using Ne.symm (h6 y c e)⟩
  · unfold Store.set at e
    by_cases q : y = x
    · rw [if_pos q] at e; cases e; subst q
      refine ⟨v, hv, ?_⟩
      subst h3
      refine rep_lst ?_ h7 (h8.mono key)
      intro z
      rcases List.mem_append.mp z with z | z
      · have := (List.mem_filter.mp z).2; simp at this
      · exact J.disj a h4 z
    · rw [if_neg q] at e
      obtain ⟨v', h1, h2⟩ := vs y sl e
      refine ⟨v', h1, ?_⟩
      cases sl with
      | dat d => exact Rep.mono key h2
      | own es => exact absurd (J.one y x es ds e hx) q
  · intro y z ds' es h1 h2
    have := OwnOnly.frozen (x := x) (σ := σ) (fun y ds' e => J.one y x ds' ds e hx) (.lst ds) y ds'
    exact absurd h1 this

theorem WS_freeze {x : Str} {ds : List D} {b : List Stmt} {Q : Out → Store → Prop} (hf : env.func.isSome = true) (hx : σ x = some (.own ds)) (h : WS prog w B A env (σ.set x (.dat (.lst ds))) b Q) : WS prog w B A env σ b Q := fun O Hd s J => by
  obtain ⟨O', hO, J'⟩ := J.freeze hx hf
  refine wpAny_mono (h O' Hd s J') (fun f s' ⟨O₁, o, σ₁, x₁, i₁, fl, q⟩ => ⟨O₁, o, σ₁, ⟨x₁.same, fun a o ha e => x₁.keep a o (fun z => ha (hO a z)) e, fun a ha => ?_⟩, i₁, fl, q⟩) fun _ _ f => f
  rcases x₁.own a ha with z | z
  · exact .inl (hO a z)
  · exact .inr z

theorem Inv.append {O Hd : List Addr} {s : Shared} (J : Inv B O Hd env σ s) {x : Str} {ds : List D} {d : D} {v : Value} {a : Addr} {ws : List Value} (hx : σ x = some (.own ds)) (hf : env.func.isSome = true)
    (ha : a ∈ O) (hL : a ≠ env.locals) (hC : ∀ y c, env.cells.lookup y = some c → a ≠ c) (hv : ∀ m cm u, s.heap.Ns env.locals m → (∀ x c, env.cells.lookup x = some c → s.heap.IsCell c (cm x)) → Holds env m cm x u → u = .ref a)
    (r : Rep s.heap (O ++ Hd) d v) (rs : Reps s.heap (O ++ Hd) ds ws) {h' : Heap} (hl : h'.PlainList a (ws ++ [v]).toArray) (hs : Heap.SameBut a s.heap h') : Ext O s O { s with heap := h' } ∧ Inv B O Hd env (σ.set x (.own (ds ++ [d]))) { s with heap := h' } := by
  obtain ⟨m, cm, ns, cs, vs⟩ := J.vars
  obtain ⟨n, ho⟩ := id hl
  obtain ⟨k1, k2, k3, k4, k5⟩ := J.after (tk := s.toks) ha hs ⟨_, ho⟩ (Nat.le_refl _)
  refine ⟨k3, ?_, k4, k5, J.disj, J.kind, J.glob, J.blt, J.loc, J.cellIn, J.cellNe, J.cellInj, ⟨m, cm, ns.sameBut hs (Ne.symm hL), fun y c e => (cs y c e).sameBut hs (Ne.symm (hC y c e)), fun y sl e => ?_⟩, ?_⟩
  · obtain ⟨h₀, tk, hs₀, h0⟩ := J.same; exact ⟨h', s.toks, by rw [hs₀], Nat.pos_of_ne_zero J.pos⟩
  · unfold Store.set at e
    by_cases q : y = x
    · rw [if_pos q] at e; cases e; subst q
      obtain ⟨u, h1, _⟩ := vs y _ hx
      refine ⟨u, h1, a, ws ++ [v], hv m cm u ns cs h1, ha, hL, hC, hl, ?_⟩
      exact k2 _ _ (rs.append (Reps.one r))
    · rw [if_neg q] at e
      obtain ⟨v', h1, h2⟩ := vs y sl e
      refine ⟨v', h1, ?_⟩
      cases sl with
      | dat d => exact k1 _ _ h2
      | own es => exact absurd (J.one y x es ds e hx) q
  · intro y z ds' es h1 h2
    have o : OwnOnly x σ := fun y ds' e => J.one y x ds' ds e hx
    exact (o.set' _ y ds' h1).trans (o.set' _ z es h2).symm

theorem Inv.value {O Hd : List Addr} {s : Shared} (J : Inv B O Hd env σ s) {x : Str} {m cm m' cm' : Str → Option Value} {u v : Value} (ns : s.heap.Ns env.locals m) (ns' : s.heap.Ns env.locals m')
    (cs : ∀ x c, env.cells.lookup x = some c → s.heap.IsCell c (cm x)) (cs' : ∀ x c, env.cells.lookup x = some c → s.heap.IsCell c (cm' x)) (h : Holds env m cm x u) (h' : Holds env m' cm' x v) : u = v := by
  unfold Holds at h h'
  have hm : m x = m' x := by
    obtain ⟨o, es, ep, ho, hd, _, hf⟩ := ns
    obtain ⟨o', es', ep', ho', hd', _, hf'⟩ := ns'
    rw [ho] at ho'; cases ho'
    rw [hd] at hd'; cases hd'
    rw [← hf, ← hf']
  have hc : (env.cells.lookup x).isSome = true → cm x = cm' x := fun q => by
    obtain ⟨c, hc⟩ := Option.isSome_iff_exists.mp q
    obtain ⟨o, ho, hd⟩ := cs x c hc
    obtain ⟨o', ho', hd'⟩ := cs' x c hc
    rw [ho] at ho'; cases ho'
    rw [hd] at hd'; exact Data.cell.inj hd'
  split at h
  · rename_i hk
    rw [hk] at h'
    rw [hm, h'] at h; cases h; rfl
  · rename_i hk
    rw [hk] at h'
    have e := hc h.1
    rw [h.2, h'.2] at e; cases e; rfl
  · rename_i hk
    rw [hk] at h'
    have e := hc h.1
    rw [h.2, h'.2] at e; cases e; rfl
  · exact h.elim

theorem WX_append {x : Str} {p apos cpos epos : Pos} {e : Expr} {ds : List D} {Q : Out → Store → Prop} (hf : env.func.isSome = true) (hx : σ x = some (.own ds)) (hsz : ds.length ≤ 2 ^ 24)
    (h : WE prog w B A env σ e (fun d => Q .next (σ.set x (.own (ds ++ [d]))))) (hns : noStar [e] = true := by rfl)
    (hint : interactive env = false := by rfl)
    (hsw : swapsWith (.Call (.Attribute (.Name x p) "append" apos) [e] [] cpos) none epos.line env = pure false := by rfl)
    (hbase : attributeBase (.Name x p) "append" env (eval (.Name x p) env) = eval (.Name x p) env := by rfl)
    (hline : (apos.endLine == cpos.line) = true := by rfl)
    (hd : (x == ("__debug__" : Str)) = false := by decide) (hn : (x == ("__classdict__" : Str)) = false := by decide) :
    WX prog w B A env σ (.Expr (.Call (.Attribute (.Name x p) "append" apos) [e] [] cpos) epos) Q := fun O Hd s J => by
  refine wpAny_Expr ?_ hint hsw
  have htrees : backTo cpos (starEach [e] env) = [(false, eval e env)] := by rw [(starEach_plain (env := env) hns).1]; rfl
  refine wpAny_Call_method1_late hbase hline htrees ?_
  refine wpAny_Name ?_ hd
  obtain ⟨m₀, cm₀, ns₀, cs₀, vs₀⟩ := J.vars
  obtain ⟨v₀, hv₀, a, ws, rfl, ha, hL, hC, hl, hr⟩ := vs₀ x _ hx
  have ld : ∀ {Q' : Value → Shared → Prop} {E' : Value → Shared → Prop}, Q' (.ref a) s → wpAny (model prog w) A (loadName env x) Q' E' s := fun {Q' E'} q => by
    unfold Holds at hv₀
    split at hv₀
    · rename_i hk
      exact wpAny_loadName_local J.kind hk ns₀ hv₀ q
    · rename_i hk
      obtain ⟨c, hc⟩ := Option.isSome_iff_exists.mp hv₀.1
      exact wpAny_loadName_cell J.kind hk hc (hv₀.2 ▸ cs₀ x c hc) q
    · rename_i hk
      obtain ⟨c, hc⟩ := Option.isSome_iff_exists.mp hv₀.1
      exact wpAny_loadName_free J.kind hk hc (hv₀.2 ▸ cs₀ x c hc) q hn
    · exact hv₀.elim
  refine ld ?_
  obtain ⟨n, hol⟩ := id hl
  refine ⟨"list", "list.append", F.plainAttrs_list, F.slot_list_append, F.type_list_append, hl.isList.typeIs, fun b e => by cases e; exact ⟨_, hol, rfl⟩, ?_⟩
  refine callWith_builtin rfl (evalArgs_plain (spliced_cons (wpAny_mono (h O Hd s J) (fun v s₁ ⟨k₁, d, r, q⟩ => spliced_nil ?_) fun _ _ f => f.elim)))
  have J₁ := J.keeps k₁
  have hl₁ := hl.at (h' := s₁.heap) fun o e => k₁.get _ o e
  have hr₁ := hr.keeps k₁.get
  refine wpAny_list_append_plain hl₁ (fun h' hp hs => ?_) (by rw [List.size_toArray, hr.length]; exact hsz)
  have e : ws.toArray.push v = (ws ++ [v]).toArray := by simp
  rw [e] at hp
  obtain ⟨x', i'⟩ := J₁.append (d := d) hx hf ha hL hC (fun m cm u ns cs hh => (J₁.value ns (ns₀.keeps k₁.get) cs (fun y c e => (cs₀ y c e).keeps k₁.get) hh hv₀)) r hr₁ hp hs
  exact ⟨O, .next, _, (Ext.of k₁).trans x', i', rfl, q⟩

end
end Mine

end
section
open PySem PySem.W PySem.Calls PyProof.Rows
namespace Mine

section
variable {prog : Program} {w : World} {B : Shared} {A : Around} {env : Env} {σ : Store}

-- a call of a def of the module
noncomputable def paramsAre (names : List Str) (args : List D) : Store := setAll (fun _ => none) names args

theorem binds_hold {h : Heap} {X : List Addr} : ∀ (xs : List Str) (ds : List D) (vs : List Value) (σ : Store) (m cm : Str → Option Value), ds.length = xs.length → Reps h X ds vs →
    (∀ x ∈ xs, env.kindOf x = some .local ∨ (env.kindOf x = some .cell ∧ (env.cells.lookup x).isSome = true)) →
    (∀ x sl, σ x = some sl → ∃ d v, sl = .dat d ∧ Holds env m cm x v ∧ Rep h X d v) →
    ∀ x sl, setAll σ xs ds x = some sl → ∃ d v, sl = .dat d ∧ Holds env (bindL env.kindOf (xs.zip vs) m) (bindC env.kindOf (xs.zip vs) cm) x v ∧ Rep h X d v
  | [], [], vs, σ, m, cm, _, _, _, hσ => by simpa [setAll, bindL, bindC] using hσ
  | [], _ :: _, vs, σ, m, cm, hl, _, _, _ => by simp at hl
  | _ :: _, [], vs, σ, m, cm, hl, _, _, _ => by simp at hl
  | x :: xs, d :: ds, vs, σ, m, cm, hl, ⟨v, vs', e, r, rs⟩, hk, hσ => by
    subst e
    simp only [List.zip_cons_cons, setAll, bindL, bindC]
    refine binds_hold xs ds vs' _ _ _ (by simpa using hl) rs (fun y hy => hk y (by simp [hy])) fun y sl hy => ?_
    unfold Store.set at hy
    rcases hk x (by simp) with hx | ⟨hx, hc⟩
    · rw [if_pos hx, if_pos hx]
      by_cases q : y = x
      · rw [if_pos q] at hy; cases hy
        refine ⟨d, v, rfl, ?_, r⟩
        unfold Holds; rw [q, hx]; simp
      · rw [if_neg q] at hy
        obtain ⟨d', v', h1, h2, h3⟩ := hσ y sl hy
        refine ⟨d', v', h1, ?_, h3⟩
        unfold Holds at h2 ⊢
        split <;> simp_all
    · have hnl : ¬ env.kindOf x = some .local := by rw [hx]; decide
      rw [if_neg hnl, if_neg hnl]
      by_cases q : y = x
      · rw [if_pos q] at hy; cases hy
        refine ⟨d, v, rfl, ?_, r⟩
        unfold Holds; rw [q, hx]; simp [hc]
      · rw [if_neg q] at hy
        obtain ⟨d', v', h1, h2, h3⟩ := hσ y sl hy
        refine ⟨d', v', h1, ?_, h3⟩
        unfold Holds at h2 ⊢
        split <;> simp_all

theorem Inv.start {fd : FuncData} {X : List Addr} {s s₁ : Shared} {f : Addr} {names : List Str} {args : List D} {vals : List Value} (g : Grd B X s)
    (hgl : fd.globals = mainGlobals) (hbl : fd.builtins = builtinsNs) (hk : fd.scope.kind = .function)
    (x : InCallC s (callEnvC fd s.heap.objs.size f).locals (bindL (callEnvC fd s.heap.objs.size f).kindOf (names.zip vals) fun _ => none) (callEnvC fd s.heap.objs.size f).cells
        (bindC (callEnvC fd s.heap.objs.size f).kindOf (names.zip vals) fun _ => none) s₁)
    (hkind : ∀ y ∈ names, (callEnvC fd s.heap.objs.size f).kindOf y = some .local ∨ ((callEnvC fd s.heap.objs.size f).kindOf y = some .cell ∧ ((callEnvC fd s.heap.objs.size f).cells.lookup y).isSome = true))
    (hl : args.length = names.length) (r : Reps s.heap X args vals) (hnd : ((cellsFrom 0 fd.scope.names []).map (·.1)).Nodup) (ht : s.toks ≤ s₁.toks) :
    Inv B (s.heap.objs.size :: (callEnvC fd s.heap.objs.size f).cells.map (·.2)) X (callEnvC fd s.heap.objs.size f) (paramsAre names args) s₁ := by
  have k := x.toInCall.keep
  have new : ∀ a, a ∈ s.heap.objs.size :: (callEnvC fd s.heap.objs.size f).cells.map (·.2) → s.heap.objs.size ≤ a := fun a ha => by
    rcases List.mem_cons.mp ha with q | q
    · exact Nat.le_of_eq q.symm
    · obtain ⟨⟨n, c⟩, h1, h2⟩ := List.mem_map.mp q
      subst h2
      exact Nat.le_of_lt (x.above n c h1)
  have key : ∀ a o, a ∉ X → s.heap.get? a = some o → s₁.heap.get? a = some o ∧ a ∉ (s.heap.objs.size :: (callEnvC fd s.heap.objs.size f).cells.map (·.2)) ++ X := fun a o ha e => ⟨k a o e, fun q => by
    rcases List.mem_append.mp q with q | q
    · exact absurd (Heap.lt_size e) (Nat.not_lt.mpr (new a q))
    · exact ha q⟩
  have cellAt : ∀ n c, (callEnvC fd s.heap.objs.size f).cells.lookup n = some c → (n, c) ∈ (callEnvC fd s.heap.objs.size f).cells := fun n c e => PySem.mem_of_lookup e
  refine ⟨?_, fun b o e => key b o (g.base b o e).2 (g.base b o e).1, fun a ha => ?_, fun a ha q => ?_, hk, hgl, hbl, List.mem_cons_self, fun _ y c e => List.mem_cons_of_mem _ (List.mem_map.mpr ⟨_, cellAt y c e, rfl⟩), fun y c e => Nat.ne_of_gt (x.above y c (cellAt y c e)),
    fun y z c e e' => name_of_addr x.apart (cellAt y c e) (cellAt z c e'), ⟨_, _, x.toInCall.ns, x.cell, fun y sl e => ?_⟩, fun y z ds es e => ?_⟩
  · obtain ⟨h, tk, e⟩ := x.toInCall.same; obtain ⟨h₀, tk₀, e₀, h0⟩ := g.same; exact ⟨h, tk, by rw [e, e₀], by subst e; exact Nat.lt_of_lt_of_le (Nat.pos_of_ne_zero g.live.pos) ht⟩
  · rcases List.mem_append.mp ha with q | q
    · rcases List.mem_cons.mp q with q | q
      · obtain ⟨o, _, _, ho, _⟩ := x.toInCall.ns; subst q; exact ⟨o, ho⟩
      · obtain ⟨⟨n, c⟩, h1, h2⟩ := List.mem_map.mp q
        subst h2
        have e : (callEnvC fd s.heap.objs.size f).cells.lookup n = some c := lookup_of_mem_nodup (cellsFrom_names fd.scope.names 0 (s.heap.objs.size + 1) [] [] rfl ▸ hnd) h1
        obtain ⟨o, ho, _⟩ := x.cell n c e
        exact ⟨o, ho⟩
    · obtain ⟨o, ho⟩ := g.live.at_ a q; exact ⟨o, k a o ho⟩
  · obtain ⟨o, ho⟩ := g.live.at_ a q; exact absurd (Heap.lt_size ho) (Nat.not_lt.mpr (new a ha))
  · obtain ⟨d, v, h1, h2, h3⟩ := binds_hold (env := callEnvC fd s.heap.objs.size f) names args vals (fun _ => none) (fun _ => none) (fun _ => none) hl r hkind (fun _ _ e => by cases e) y sl e
    subst h1
    exact ⟨v, h2, Rep.mono key h3⟩
  · obtain ⟨d, v, h1, _⟩ := binds_hold (env := callEnvC fd s.heap.objs.size f) names args vals (fun _ => none) (fun _ => none) (fun _ => none) hl r hkind (fun _ _ e => by cases e) y _ e
    cases h1

theorem WC_def {mg mb : Str → Option Value} (G : Base B mg mb) {x : Str} {f : Addr} {fd : FuncData} (H : FnAt B mg x f fd) {names : List Str} {args : List D} {body : List Stmt} {Q : D → Prop}
    (hroom : A.depth < recursionLimit) (hbody : fd.body = .stmts body) (hclo : fd.closure = []) (hgl : fd.globals = mainGlobals) (hbl : fd.builtins = builtinsNs)
    (hco : fd.scope.isCoroutine = false) (hgen : fd.scope.isGenerator = false) (hk : fd.scope.kind = .function) (hnd : ((cellsFrom 0 fd.scope.names []).map (·.1)).Nodup)
    (hl : args.length = names.length) (hbind : ∀ vals : List Value, vals.length = names.length → bindArgs fd ⟨vals, []⟩ = pure (names.zip vals))
    (hkind : ∀ L, ∀ y ∈ names, (callEnvC fd L f).kindOf y = some .local ∨ ((callEnvC fd L f).kindOf y = some .cell ∧ ((callEnvC fd L f).cells.lookup y).isSome = true))
    (h : ∀ L, WS prog w B (A.deeper (callEnvC fd L f)) (callEnvC fd L f) (paramsAre names args) body (fun o _ => match o with | .ret d => Q d | _ => False)) : WC prog w B A (.ref f) args Q := fun X s vals g r => by
  obtain ⟨o, ho, hdat⟩ := H.obj
  have hk' : ∀ b o, B.heap.get? b = some o → s.heap.get? b = some o := fun b o e => (g.base b o e).1
  refine wpAny_call (codeAny_call_function hroom (hk' _ _ ho) hdat hco hgen hbody (H.code.keeps hk') ?_)
  rw [hbind vals (by rw [r.length, hl]), hclo]
  refine wpAny_pure (wpAny_with_toks (n := s.toks) (Nat.le_refl _) (wpAny_newFunctionEnv_cells hk ?_ fun env he s₁ x ht => ?_))
  · intro y hy
    have hy' : y.1 ∈ names := (List.of_mem_zip (a := y.1) (b := y.2) hy).1
    exact hkind s.heap.objs.size y.1 hy'
  · subst he
    refine ⟨(G.nolimit.keeps hk').keeps x.toInCall.keep, codeAny_func ?_⟩
    have J := Inv.start (B := B) g hgl hbl hk x (hkind s.heap.objs.size) hl r hnd ht
    refine wpAny_mono (h s.heap.objs.size _ X s₁ J) (fun fl s' ⟨O', o, σ', x', i', fl', q⟩ => ?_) fun _ _ f => f.elim
    have kp : Kp s s' := by
      obtain ⟨h₁, tk₁, e₁⟩ := x.toInCall.same
      obtain ⟨h₂, tk₂, e₂, ht₂⟩ := x'.same
      refine ⟨⟨h₂, tk₂, by rw [e₂, e₁], Nat.le_trans ht ht₂⟩, fun b o e => x'.keep b o (fun hb => ?_) (x.toInCall.keep b o e)⟩
      rcases List.mem_cons.mp hb with q | q
      · subst q; exact absurd (Heap.lt_size e) (Nat.lt_irrefl _)
      · obtain ⟨⟨n, c⟩, h1, h2⟩ := List.mem_map.mp q
        have := x.above n c h1
        simp only at h2
        subst h2
        exact absurd (Heap.lt_size e) (Nat.not_lt.mpr (Nat.le_of_lt this))
    cases o with
    | ret d =>
      obtain ⟨v, rfl, rv⟩ := fl'
      exact ⟨kp, d, rv.mono fun a o ha e => ⟨e, fun z => ha (List.mem_append_right _ z)⟩, q⟩
    | _ => exact q.elim

-- ranges
noncomputable def rangeD (a b c : Int) : List D := (List.range (Builtin.Range.rangeSize a b c).toNat).map fun (i : Nat) => D.int (a + i * c)

theorem iter_range {X : List Addr} {s : Shared} {r : Addr} {a b c : Int} {t u v : Tok} (hA : A.handled = none) (l : Live X s) (hr : IsRange s.heap r a b c t u v) (hsm : Builtin.Range.small a b c = true) :
    wpAny (model prog w) A (pyIter (.ref r)) (fun it s' => Kp s s' ∧ ∃ I, it = .ref I ∧ It prog w A s X I (rangeD a b c) s') no s := by
  refine wpAny_pyIter_range hr hsm ?_
  have hn := rangeSize_toNat a b c
  have hlen : (rangeD a b c).length = (Builtin.Range.rangeSize a b c).toNat := by simp [rangeD]
  have W := Walks.range (prog := prog) (w := w) hA s.heap.objs.size a c (Builtin.Range.rangeSize a b c).toNat
  rw [← hlen] at W
  refine ⟨Kp.push _ _, _, rfl, ⟨[s.heap.objs.size], _, _, W, ?_, ?_, ?_, ?_, ?_, ?_⟩, ?_⟩
  · show IsRangeIter _ _ _ _ _
    rw [hlen, ← hn]
    simpa using Heap.get?_push_size _ rfl
  · intro b hb; simp at hb; subst hb; exact l.fresh
  · intro b hb; simp at hb; subst hb; exact ⟨_, Heap.get?_push_size _ rfl⟩
  · exact fun i h st => ⟨_, st⟩
  · rintro i v d ⟨t, rfl⟩ hd
    unfold rangeD at hd
    rw [List.getElem?_map] at hd
    cases hi : (List.range (Builtin.Range.rangeSize a b c).toNat)[i]? with
    | none => rw [hi] at hd; cases hd
    | some j =>
      rw [hi] at hd
      have : j = i := by
        have := List.getElem?_range (n := (Builtin.Range.rangeSize a b c).toNat) (i := i)
        by_cases h : i < (Builtin.Range.rangeSize a b c).toNat
        · rw [this h] at hi; cases hi; rfl
        · rw [List.getElem?_eq_none (by simpa using h)] at hi; cases hi
      subst this
      cases hd
      exact rep_int
  · intro i s' v target Q E st hq
    exact letOwned_ref (cls := "range_iterator") (l := rawInt _) (vs := [rawInt _, rawInt _]) ⟨_, st, rfl, rfl⟩ (fun _ => .inr (by decide)) hq
  · cases e : s.heap.get? s.heap.objs.size with
    | none => rfl
    | some o => exact absurd (Heap.lt_size e) (Nat.lt_irrefl _)

theorem small_of {a b c : Int} (ha : -(2 ^ 40) ≤ a ∧ a ≤ 2 ^ 40) (hb : -(2 ^ 40) ≤ b ∧ b ≤ 2 ^ 40) (hc : 1 ≤ c ∧ c ≤ 2 ^ 40) : Builtin.Range.small a b c = true := by
  have h1 := rangeSize_toNat a b c
  have h2 := rangeSize_toNat_le a b c
  have f : ∀ x : Int, -(2 ^ 62) ≤ x → x ≤ 2 ^ 62 → Builtin.Range.rangeFitsLong x = true := fun x h1 h2 => by
    simp [Builtin.Range.rangeFitsLong]; omega
  unfold Builtin.Range.small
  rw [f a (by omega) (by omega), f b (by omega) (by omega), f c (by omega) (by omega), f (Builtin.Range.rangeSize a b c) (by omega) (by omega)]
  rw [if_pos (by omega), f (b + (c - 1)) (by omega) (by omega)]
  simp

/-- range(..) as a loop's source -/
theorem WI_range {mg mb : Str → Option Value} (G : Base B mg mb) {p pos : Pos} {e : Expr} {args : List Expr} {Q : List D → Prop} (hA : A.handled = none)
    (hx : env.kindOf "range" = some .globalImplicit) (hm : mg "range" = none)
    (h : WEs prog w B A env σ (e :: args) (fun ds => ∃ a b c, (ds = [.int b] ∧ a = 0 ∧ c = 1 ∨ ds = [.int a, .int b] ∧ c = 1 ∨ ds = [.int a, .int b, .int c]) ∧ (-(2 ^ 40) ≤ a ∧ a ≤ 2 ^ 40) ∧ (-(2 ^ 40) ≤ b ∧ b ≤ 2 ^ 40) ∧ (1 ≤ c ∧ c ≤ 2 ^ 20) ∧ Q (rangeD a b c)))
    (hs : noStar (e :: args) = true := by rfl) : WI prog w B A env σ (.Call (.Name "range" p) (e :: args) [] pos) Q := fun O Hd s I => by
  refine Call_Name rfl (load_builtin G I hx hm (v := .type "range") (by with_unfolding_all rfl) ?_ (by decide) (by decide))
  refine callWith_type1 (wpAny_mono (WEs.wp (e :: args) _ s hs h I) (fun vs s₁ ⟨k₁, ds, rs, a, b, c, hd, ha, hb, hc, q⟩ => ?_) fun _ _ f => f.elim) (starEach_plain hs).1 (WEs.any args (starEach_plain (env := env) hs).2)
  have I₁ := I.keeps k₁
  have hsm := small_of ha hb (c := c) ⟨hc.1, by omega⟩
  have fin : ∀ (t u v : Tok) (tk : Nat), s₁.toks ≤ tk → wpAny (model prog w) A (pyIter (.ref s₁.heap.objs.size)) (fun it s₂ => Kp s s₂ ∧ ∃ I ds, it = .ref I ∧ It prog w A s (O ++ Hd) I ds s₂ ∧ Q ds) no
      { s₁ with heap := s₁.heap.push { cls := .type "range", data := .fields #[.int a t, .int b u, .int c v] }, toks := tk } := fun t u v tk htk => by
    have kk : Kp s₁ { s₁ with heap := s₁.heap.push { cls := .type "range", data := .fields #[.int a t, .int b u, .int c v] }, toks := tk } := Kp.mk' (fun _ _ e => Heap.get?_push_of_some _ e) htk
    refine wpAny_mono (iter_range (X := O ++ Hd) hA (I₁.lives.keeps kk) (IsRange.new ..) hsm) (fun it s₂ ⟨k₂, I', e, t⟩ => ⟨(k₁.trans kk).trans k₂, I', _, e, t.older (k₁.trans kk), q⟩) fun _ _ f => f
  rcases hd with ⟨hd, rfl, rfl⟩ | ⟨hd, rfl⟩ | hd
  · subst hd
    obtain ⟨v₁, r₁, rfl, h1, h2⟩ := rs
    cases h2
    obtain ⟨t, rfl⟩ := h1.int_inv
    exact call_range_1 (fin _ _ _ _ (by omega))
  · subst hd
    obtain ⟨v₁, r₁, rfl, h1, v₂, r₂, rfl, h2, h3⟩ := rs
    cases h3
    obtain ⟨t, rfl⟩ := h1.int_inv
    obtain ⟨t', rfl⟩ := h2.int_inv
    exact call_range_2 (fin _ _ _ _ (by omega))
  · subst hd
    obtain ⟨v₁, r₁, rfl, h1, v₂, r₂, rfl, h2, v₃, r₃, rfl, h3, h4⟩ := rs
    cases h4
    obtain ⟨t, rfl⟩ := h1.int_inv
    obtain ⟨t', rfl⟩ := h2.int_inv
    obtain ⟨t'', rfl⟩ := h3.int_inv
    exact call_range_3 (by omega) (fin _ _ _ _ (by omega)) (Or.inl (PyProof.noPylong_small (by omega)))
end
end Mine

end
section
open PySem PySem.W PySem.Calls PyProof.Rows
namespace Mine

theorem Store.set_set (σ : Store) (x : Str) (a b : Slot) : (σ.set x a).set x b = σ.set x b := by
  funext y; unfold Store.set; split <;> simp_all

section
variable {prog : Program} {w : World} {B : Shared} {A : Around} {env : Env} {σ : Store}

/-- new objects, taken for the frame's own (N₁) or held apart (N₂) -/
theorem Inv.grow {O Hd N₁ N₂ : List Addr} {s s' : Shared} (J : Inv B O Hd env σ s) (k : Kp s s') (h1 : ∀ a ∈ N₁, s.heap.get? a = none ∧ a ∉ N₂ ∧ ∃ o, s'.heap.get? a = some o) (h2 : ∀ a ∈ N₂, s.heap.get? a = none ∧ ∃ o, s'.heap.get? a = some o) :
    Inv B (N₁ ++ O) (N₂ ++ Hd) env σ s' := by
  have J' := J.keeps k
  have old : ∀ a o, s.heap.get? a = some o → a ∉ N₁ ∧ a ∉ N₂ := fun a o e => ⟨fun q => (by rw [(h1 a q).1] at e; cases e), fun q => (by rw [(h2 a q).1] at e; cases e)⟩
  have key : ∀ a o, a ∉ O ++ Hd → s.heap.get? a = some o → s'.heap.get? a = some o ∧ a ∉ (N₁ ++ O) ++ (N₂ ++ Hd) := fun a o ha e => ⟨k.get a o e, fun q => by
    have := old a o e
    simp only [List.mem_append] at q ha
    rcases q with (q | q) | (q | q)
    · exact this.1 q
    · exact ha (.inl q)
    · exact this.2 q
    · exact ha (.inr q)⟩
  obtain ⟨m, cm, ns, cs, vs⟩ := J.vars
  refine ⟨J'.same, fun b o e => key b o (J.base b o e).2 (J.base b o e).1, fun a ha => ?_, fun a ha q => ?_, J.kind, J.glob, J.blt, List.mem_append_right _ J.loc, fun hf x c e => List.mem_append_right _ (J.cellIn hf x c e), J.cellNe, J.cellInj,
    ⟨m, cm, ns.keeps k.get, fun x c e => (cs x c e).keeps k.get, fun x sl e => ?_⟩, J.one⟩
  · simp only [List.mem_append] at ha
    rcases ha with (q | q) | (q | q)
    · exact (h1 a q).2.2
    · exact J'.live a (List.mem_append_left _ q)
    · exact (h2 a q).2
    · exact J'.live a (List.mem_append_right _ q)
  · simp only [List.mem_append] at ha q
    rcases ha with ha | ha <;> rcases q with q | q
    · exact (h1 a ha).2.1 q
    · obtain ⟨o, ho⟩ := J.live a (List.mem_append_right _ q); exact (old a o ho).1 ha
    · obtain ⟨o, ho⟩ := J.live a (List.mem_append_left _ ha); exact (old a o ho).2 q
    · exact J.disj a ha q
  · obtain ⟨v, h3, h4⟩ := vs x sl e
    refine ⟨v, h3, ?_⟩
    cases sl with
    | dat d => exact Rep.mono key h4
    | own ds => obtain ⟨a, ws, h5, h6, h7, h8, h9, h10⟩ := h4; exact ⟨a, ws, h5, List.mem_append_right _ h6, h7, h8, h9.at fun o e => k.get _ o e, h10.mono key⟩

/-- one held or owned object changes, of which no variable speaks -/
theorem Inv.change {O Hd : List Addr} {s s' : Shared} {p : Addr} (J : Inv B O Hd env σ s) (hp : p ∈ O ++ Hd) (hL : p ≠ env.locals) (hC : ∀ x c, env.cells.lookup x = some c → c ≠ p) (hno : NoOwn σ)
    (hs : ∃ h tk, s' = { s with heap := h, toks := tk } ∧ s.toks ≤ tk) (hlive : ∃ o, s'.heap.get? p = some o) (k : ∀ b o, b ≠ p → s.heap.get? b = some o → s'.heap.get? b = some o) : Inv B O Hd env σ s' := by
  have ne : ∀ a, a ∉ O ++ Hd → a ≠ p := fun a ha q => ha (q ▸ hp)
  have key : ∀ a o, a ∉ O ++ Hd → s.heap.get? a = some o → s'.heap.get? a = some o ∧ a ∉ O ++ Hd := fun a o ha e => ⟨k a o (ne a ha) e, ha⟩
  obtain ⟨m, cm, ns, cs, vs⟩ := J.vars
  refine ⟨?_, fun b o e => key b o (J.base b o e).2 (J.base b o e).1, fun a ha => ?_, J.disj, J.kind, J.glob, J.blt, J.loc, J.cellIn, J.cellNe, J.cellInj, ⟨m, cm, ns.at' fun o e => k _ o (Ne.symm hL) e, fun x c e => ?_, fun x sl e => ?_⟩, J.one⟩
  · obtain ⟨h, tk, e, ht⟩ := hs; obtain ⟨h₀, tk₀, e₀, h0⟩ := J.same; exact ⟨h, tk, by rw [e, e₀], Nat.lt_of_lt_of_le (Nat.pos_of_ne_zero J.pos) ht⟩
  · by_cases q : a = p
    · subst q; exact hlive
    · obtain ⟨o, ho⟩ := J.live a ha; exact ⟨o, k a o q ho⟩
  · obtain ⟨o, ho, hd⟩ := cs x c e; exact ⟨o, k c o (hC x c e) ho, hd⟩
  · obtain ⟨v, h3, h4⟩ := vs x sl e
    refine ⟨v, h3, ?_⟩
    cases sl with
    | dat d => exact Rep.mono key h4
    | own ds => exact absurd e (hno x ds)

-- comprehensions
noncomputable def freeIn (scope : Scope) (y : Str) : Bool := decide (scope.names.lookup y = some .free)

noncomputable def dataOf (σ : Store) : Store := fun y => match σ y with | some (.dat d) => some (.dat d) | _ => none
/-- what a comprehension's own frame sees -/
noncomputable def compσ (scope : Scope) (σ : Store) : Store := fun y => if freeIn scope y = true then dataOf σ y else none

noncomputable def WTs (prog : Program) (w : World) (B : Shared) (A : Around) (env : Env) (σ : Store) : List Expr → (Bool → Prop) → Prop
  | [], Q => Q true
  | [c], Q => WT prog w B A env σ c Q
  | _, _ => False

theorem WTs.wp {O Hd : List Addr} {s : Shared} {ifs : List Expr} {Q : Bool → Prop} (h : WTs prog w B A env σ ifs Q) (J : Inv B O Hd env σ s) :
    wpAny (model prog w) A (forIn ifs true fun c r => if r = true then do let ok ← isTrue c env (eval c env); pure (ForInStep.yield ok) else pure (ForInStep.yield r)) (fun ok s' => Kp s s' ∧ Q ok) no s := by
  match ifs, h with
  | [], h => exact wpAny_tests_nil ⟨Kp.refl _, h⟩
  | [c], h => exact wpAny_tests_one (h O Hd s J)
  | _ :: _ :: _, h => exact (show False from h).elim

noncomputable def CompP (prog : Program) (w : World) (B : Shared) (A : Around) (cenv : Env) (σ₀ : Store) (x : Str) (ifs : List Expr) (elt : Expr) : List D → (List D → Prop) → Prop
  | [], Q => Q []
  | d :: ds, Q => WTs prog w B A cenv (σ₀.set x (.dat d)) ifs (fun ok => if ok = true then WE prog w B A cenv (σ₀.set x (.dat d)) elt (fun e => CompP prog w B A cenv σ₀ x ifs elt ds (fun es => Q (e :: es)))
      else CompP prog w B A cenv σ₀ x ifs elt ds Q)

theorem closureFor_some {f : Str × NameKind → List (Str × Addr) → Sem (ForInStep (List (Str × Addr)))}
    (hf : ∀ n k cs, f (n, k) cs = if (k == .free) = true then (do let a ← cellOf env n; pure (.yield ((n, a) :: cs))) else pure (.yield cs)) :
    ∀ (names : List (Str × NameKind)) (acc : List (Str × Addr)), (∀ y ∈ names, y.2 = .free → (env.cells.lookup y.1).isSome = true) → (∀ y c, acc.lookup y = some c → env.cells.lookup y = some c) →
      ∃ cl, forIn names acc f = (pure cl : Sem _) ∧ (∀ y c, cl.lookup y = some c → env.cells.lookup y = some c) ∧ (∀ y, (acc.lookup y).isSome = true → (cl.lookup y).isSome = true) ∧ (∀ y ∈ names, y.2 = .free → (cl.lookup y.1).isSome = true)
  | [], acc, _, ha => ⟨acc, rfl, ha, fun _ h => h, fun _ h => by cases h⟩
  | (n, k) :: rest, acc, hn, ha => by
    rw [List.forIn_cons, hf]
    by_cases hk : (k == NameKind.free) = true
    · rw [if_pos hk]
      have hkf : k = .free := by simpa using hk
      obtain ⟨c, hc⟩ := Option.isSome_iff_exists.mp (hn (n, k) (by simp) hkf)
      have e : cellOf env n = pure c := by unfold cellOf; simp only at hc; rw [hc]
      obtain ⟨cl, h1, h2, h3, h4⟩ := closureFor_some hf rest ((n, c) :: acc) (fun y hy => hn y (by simp [hy])) (fun y c' h => by
        rw [List.lookup_cons] at h
        cases hb : y == n with
        | true => rw [hb] at h; cases h; rw [beq_iff_eq.mp hb]; exact hc
        | false => rw [hb] at h; exact ha y c' h)
      refine ⟨cl, ?_, h2, fun y hy => h3 y ?_, fun y hy hf' => ?_⟩
      · rw [e]; exact h1
      · rw [List.lookup_cons]; cases hb : y == n <;> simp [hb, hy]
      · rcases List.mem_cons.mp hy with q | q
        · subst q; refine h3 _ ?_; rw [List.lookup_cons]; simp
        · exact h4 y q hf'
    · rw [if_neg hk]
      obtain ⟨cl, h1, h2, h3, h4⟩ := closureFor_some hf rest acc (fun y hy => hn y (by simp [hy])) ha
      refine ⟨cl, h1, h2, h3, fun y hy hf' => ?_⟩
      rcases List.mem_cons.mp hy with q | q
      · subst q; exact absurd (by simpa using hf') hk
      · exact h4 y q hf'

theorem mem_lookup {α : Type} : ∀ {l : List (Str × α)} {n : Str} {c : α}, l.lookup n = some c → (n, c) ∈ l := fun h => PySem.mem_of_lookup h

theorem relabel_free {scope : Scope} {y : Str} (hy : scope.names.lookup y = some .free) : ((relabel scope env).names.lookup y = some .cell) ∨ ((relabel scope env).names.lookup y = some .free) := by
  have : ∀ names : List (Str × NameKind), names.lookup y = some .free → ((names.map fun (n, k) => if (k == NameKind.free && env.scope.kind == .function && env.kindOf n == some .cell) then (n, NameKind.cell) else (n, k)).lookup y = some .cell) ∨
      ((names.map fun (n, k) => if (k == NameKind.free && env.scope.kind == .function && env.kindOf n == some .cell) then (n, NameKind.cell) else (n, k)).lookup y = some .free) := by
    intro names
    induction names with
    | nil => intro h; simp at h
    | cons p r ih =>
      obtain ⟨n, k⟩ := p
      intro h
      simp only [List.map_cons]
      rw [List.lookup_cons] at h
      cases hb : y == n with
      | true =>
        rw [hb] at h; cases h
        by_cases hc : (NameKind.free == NameKind.free && env.scope.kind == .function && env.kindOf n == some .cell) = true
        · rw [if_pos hc]; left; rw [List.lookup_cons, hb]
        · rw [if_neg hc]; right; rw [List.lookup_cons, hb]
      | false =>
        rw [hb] at h
        have := ih h
        by_cases hc : (k == NameKind.free && env.scope.kind == .function && env.kindOf n == some .cell) = true
        · rw [if_pos hc]; simpa [List.lookup_cons, hb] using this
        · rw [if_neg hc]; simpa [List.lookup_cons, hb] using this
  exact this _ hy


theorem closure_of {scope : Scope} (hn : ∀ y ∈ scope.names, y.2 = .free → (env.cells.lookup y.1).isSome = true) :
    ∃ cl, closureFor scope env = pure cl ∧ (∀ y c, cl.lookup y = some c → env.cells.lookup y = some c) ∧ (∀ y ∈ scope.names, y.2 = .free → (cl.lookup y.1).isSome = true) := by
  obtain ⟨cl, h1, h2, _, h4⟩ := closureFor_some (env := env) (f := fun x cs => if (x.2 == .free) = true then (do let a ← cellOf env x.1; pure (.yield ((x.1, a) :: cs))) else pure (.yield cs)) (fun _ _ _ => rfl) scope.names [] hn (fun _ _ h => by simp at h)
  refine ⟨cl, ?_, h2, h4⟩
  unfold closureFor
  have : (forIn scope.names ([] : List (Str × Addr)) fun x cs => if (x.2 == NameKind.free) = true then (do let a ← cellOf env x.1; pure (.yield ((x.1, a) :: cs))) else pure (.yield cs)) >>= pure = (pure cl : Sem _) := by rw [h1]; rfl
  exact this

theorem comp_core {O Hd : List Addr} {s s₂ : Shared} {I : Addr} {ds : List D} {elt iter : Expr} {x : Str} {px : Pos} {ifs : List Expr} {scope : Scope} {pos : Pos} {cl : List (Str × Addr)} {Q : List D → Prop} {E : Value → Shared → Prop} {RR : Value → Addr → Result → Shared → Prop}
    (J : Inv B O Hd env σ s) (k₂ : Kp s s₂) (t : It prog w A s (O ++ Hd) I ds s₂) (hsz : ds.length ≤ 2 ^ 24)
    (hcl : ∀ y c, cl.lookup y = some c → env.cells.lookup y = some c) (hfree : ∀ y ∈ scope.names, y.2 = .free → (cl.lookup y.1).isSome = true ∧ (env.kindOf y.1 = some .cell ∨ env.kindOf y.1 = some .free))
    (hcell : ∀ y ∈ scope.names, y.2 ≠ .cell) (hkind : scope.kind = .function) (hx : scope.names.lookup x = some .local)
    (L : ∀ C, CompP prog w B A (compEnvC scope cl C env) (compσ scope σ) x ifs elt ds Q)
    (hR : ∀ C D ys es m s', Kp s s' → s.heap.get? C = none → s.heap.get? D = none → C ≠ D → s'.heap.Ns C m → s'.heap.PlainList D (List.toArray ys) → Reps s'.heap (D :: C :: (O ++ Hd)) es ys → Q es → RR (.ref D) C (.ok .next) s') :
    wpAny (model prog w) A (newList []) (fun acc s₃ => wpAny (model prog w) A (newFunctionEnv scope env.globals cl [] env.qual none .none (some env)) (fun cenv s₄ =>
      codeAny (model prog w) A (.compStart (.ListComp elt [⟨.Name x px, iter, ifs, 0⟩] scope pos) 0 (.ref I) acc { cenv with scope := relabel scope env }) (RR acc cenv.locals) s₄) E s₃) E s₂ := by
  obtain ⟨fp, P, St, W, st, hfp, hfp', hI, hP, hgo⟩ := t.walk
  refine wpAny_newObj_type (wpAny_newFunctionEnv hcell (by intro y hy; simp at hy) (fun h₁ hns₁ hsb₁ => ?_) hkind)
  dsimp only at hns₁ hsb₁ ⊢
  generalize hD : s₂.heap.objs.size = Dd at hns₁ hsb₁ ⊢
  generalize hH2 : s₂.heap.push { cls := .type "list", dict := none, data := .seq ([] : List Value).toArray } = H2 at hns₁ hsb₁ ⊢
  have hC : H2.objs.size = Dd + 1 := by rw [← hH2, Heap.size_push, hD]
  generalize hCC : H2.objs.size = C at hns₁ hsb₁ hC ⊢
  have hDC : Dd ≠ C := by omega
  have below : ∀ b o, s₂.heap.get? b = some o → b ≠ C ∧ b ≠ Dd := fun b o e => by
    have h1 : b < s₂.heap.objs.size := Heap.lt_size e
    rw [hD] at h1
    exact ⟨fun q => by rw [q, hC] at h1; exact absurd h1 (Nat.not_lt.mpr (Nat.le_succ _)), fun q => by rw [q] at h1; exact Nat.lt_irrefl _ h1⟩
  have k₁ : ∀ b o, s₂.heap.get? b = some o → h₁.get? b = some o := fun b o e => hsb₁.extBut b o (below b o e).1 (Heap.get?_push_of_some _ (hH2 ▸ Heap.get?_push_of_some _ e))
  have hacc₁ : h₁.PlainList Dd ([] : List Value).toArray := ⟨0, hsb₁.extBut _ _ hDC (Heap.get?_push_of_some _ (by rw [← hH2, ← hD]; exact Heap.get?_push_size _ rfl))⟩
  have none_of : ∀ a : Nat, s₂.heap.objs.size ≤ a → s.heap.get? a = none := fun a ha => by
    cases e : s.heap.get? a with
    | none => rfl
    | some o => exact absurd (Heap.lt_size (k₂.get _ _ e)) (Nat.not_lt.mpr ha)
  have nC := none_of C (by rw [hD, hC]; exact Nat.le_succ _)
  have nD := none_of Dd (by rw [hD]; exact Nat.le_refl _)
  have ICD : I ≠ C ∧ I ≠ Dd := by obtain ⟨o, ho⟩ := hI 0 _ st; exact below I o ho
  -- the comprehension's frame
  obtain ⟨m₀, cm₀, ns₀, cs₀, vs₀⟩ := J.vars
  let cenv := compEnvC scope cl C env
  generalize hXc : Dd :: I :: (O ++ Hd) = Hc
  have s₁eq : Kp s { s₂ with heap := h₁, toks := s₂.toks } := k₂.trans (Kp.mk' k₁ (Nat.le_refl _))
  have cold : ∀ y c, cl.lookup y = some c → ∃ o, s.heap.get? c = some o := fun y c e => by obtain ⟨o, ho, _⟩ := cs₀ y c (hcl y c e); exact ⟨o, ho⟩
  have cne : ∀ y c, cl.lookup y = some c → c ≠ C ∧ c ≠ Dd ∧ c ≠ I := fun y c e => by
    obtain ⟨o, ho⟩ := cold y c e
    refine ⟨(below c o (k₂.get _ _ ho)).1, (below c o (k₂.get _ _ ho)).2, fun q => ?_⟩
    subst q; rw [t.fresh] at ho; cases ho
  have inX : ∀ a, a ∈ [C] ++ Hc ↔ a = C ∨ a = Dd ∨ a = I ∨ a ∈ O ++ Hd := fun a => by rw [← hXc]; simp
  have inHc : ∀ a, a ∈ Hc ↔ a = Dd ∨ a = I ∨ a ∈ O ++ Hd := fun a => by rw [← hXc]; simp
  have key₀ : ∀ {h : Heap}, (∀ b o, s.heap.get? b = some o → h.get? b = some o) → ∀ a o, a ∉ O ++ Hd → s.heap.get? a = some o → h.get? a = some o ∧ a ∉ [C] ++ Hc := fun {h} kk a o ha e => ⟨kk a o e, fun q => by
    have hb := below a o (k₂.get a o e)
    rcases (inX a).mp q with q | q | q | q
    · exact hb.1 q
    · exact hb.2 q
    · subst q; rw [t.fresh] at e; cases e
    · exact ha q⟩
  have J₁ : Inv B [C] Hc cenv (compσ scope σ) { s₂ with heap := h₁, toks := s₂.toks + ([] : List (Str × Value)).length } := by
    refine ⟨?_, fun b o e => key₀ s₁eq.get b o (J.base b o e).2 (J.base b o e).1, fun a ha => ?_, fun a ha q => ?_, (by show (relabel scope env).kind = _; exact hkind), J.glob, J.blt, (by show C ∈ _; simp), fun hf => (by cases hf), fun y c e => (cne y c e).1,
      fun y z c e e' => J.cellInj y z c (hcl y c e) (hcl z c e'), ⟨_, cm₀, hns₁, fun y c e => (cs₀ y c (hcl y c e)).keeps s₁eq.get, fun y sl e => ?_⟩, fun y z d e h => ?_⟩
    · obtain ⟨h, tk, e, ht⟩ := k₂.same; obtain ⟨h₀, tk₀, e₀, h0⟩ := J.same; exact ⟨h₁, s₂.toks, by rw [e, e₀]; rfl, Nat.pos_of_ne_zero (J.keeps k₂).pos⟩
    · rcases (inX a).mp ha with q | q | q | q
      · subst q; obtain ⟨o, _, _, ho, _⟩ := hns₁; exact ⟨o, ho⟩
      · subst q; obtain ⟨n, ho⟩ := hacc₁; exact ⟨_, ho⟩
      · subst q; obtain ⟨o, ho⟩ := hI 0 _ st; exact ⟨o, k₁ _ o ho⟩
      · obtain ⟨o, ho⟩ := J.live a q; exact ⟨o, s₁eq.get _ _ ho⟩
    · have ha' : a = C := by simpa using ha
      subst ha'
      rcases (inHc a).mp q with q | q | q
      · exact hDC q.symm
      · exact ICD.1 q.symm
      · obtain ⟨o, ho⟩ := J.live a q; rw [nC] at ho; cases ho
    · unfold compσ at e
      split at e
      · rename_i hfr
        have hfr' : scope.names.lookup y = some .free := by simpa [freeIn] using hfr
        unfold dataOf at e
        split at e
        · rename_i d hd
          cases e
          obtain ⟨v, h1, h2⟩ := vs₀ y _ hd
          have hm := hfree (y, .free) (mem_lookup hfr') rfl
          refine ⟨v, ?_, Rep.mono (key₀ s₁eq.get) h2⟩
          have hcm : cm₀ y = some v := by
            unfold Holds at h1
            simp only at hm
            rcases hm.2 with hk | hk <;> rw [hk] at h1 <;> exact h1.2
          unfold Holds
          rcases relabel_free (env := env) hfr' with hk | hk
          · have : cenv.kindOf y = some .cell := hk
            rw [this]; exact ⟨hm.1, hcm⟩
          · have : cenv.kindOf y = some .free := hk
            rw [this]; exact ⟨hm.1, hcm⟩
        · cases e
      · cases e
    · unfold compσ dataOf at h
      split at h
      · split at h <;> cases h
      · cases h
  have noσ₀ : NoOwn (compσ scope σ) := fun y ds' e => by
    unfold compσ dataOf at e
    split at e
    · split at e <;> cases e
    · cases e
  have hxl : cenv.kindOf x = some .local := lookup_relabel_local hx
  -- the loop
  have loop : codeAny (model prog w) A (.compLoop (.ListComp elt [⟨.Name x px, iter, ifs, 0⟩] scope pos) 0 (.ref I) (.ref Dd) cenv) (RR (.ref Dd) C) { s₂ with heap := h₁, toks := s₂.toks + ([] : List (Str × Value)).length } := by
    refine codeAny_compLoop_tests
      (fun n s' => ∃ i es ys σ', n = ds.length + 1 - i ∧ i ≤ ds.length ∧ St i s'.heap ∧ Inv B [C] Hc cenv σ' s' ∧ (∀ d, σ'.set x d = (compσ scope σ).set x d) ∧ NoOwn σ' ∧ s'.heap.PlainList Dd (List.toArray ys) ∧ Reps s'.heap ([C] ++ Hc) es ys ∧
        es.length ≤ i ∧ CompP prog w B A cenv (compσ scope σ) x ifs elt (ds.drop i) (fun rest => Q (es ++ rest)) ∧ Kp s s' ∧ (∀ i v d, P i v → ds[i]? = some d → Rep s'.heap ([C] ++ Hc) d v)) ?_ (ds.length + 1)
      ⟨0, [], [], compσ scope σ, by omega, by omega, W.frame _ _ _ st fun b _ o e => k₁ b o e, J₁, fun _ => rfl, noσ₀, hacc₁, rfl, by simp, by simpa using L C, s₁eq, ?_⟩
    · rintro n s₃ ⟨i, es, ys, σ', rfl, hi, st₃, J₃, hσ', hno', hacc₃, hes, hel, L₃, k₃, hP₃⟩
      have neI : ∀ b, b ≠ I → b ∉ [I] := fun b hb => by simpa using hb
      have fpC : ∀ b ∈ fp, b ≠ C ∧ b ≠ Dd := fun b hb => by obtain ⟨o, ho⟩ := hfp' b hb; exact below b o ho
      by_cases hlt : i < ds.length
      · refine wpAny_with_toks (n := s₃.toks) (Nat.le_refl _) (W.item i s₃ _ _ hlt st₃ fun v h₄ tk₄ pv st₄ k₄ ht₄ => ?_)
        have J₄ : Inv B [C] Hc cenv σ' { s₃ with heap := h₄, toks := tk₄ } := J₃.change (p := I) ((inX I).mpr (.inr (.inr (.inl rfl)))) ICD.1 (fun y c e => (cne y c e).2.2) hno' ⟨_, _, rfl, ht₄⟩ (hI _ _ st₄) fun b o hb e => k₄ b o (neI b hb) e
        have k34 : Kp s { s₃ with heap := h₄, toks := tk₄ } := ⟨by obtain ⟨h, tk, e, ht⟩ := k₃.same; exact ⟨h₄, tk₄, by rw [e], Nat.le_trans ht (by rw [e] at ht₄; exact ht₄)⟩, fun b o e => k₄ b o (neI b (fun q => by subst q; rw [t.fresh] at e; cases e)) (k₃.get b o e)⟩
        have hdi : ds[i]? = some ds[i] := by simp [hlt]
        have key4 : ∀ a o, a ∉ [C] ++ Hc → s₃.heap.get? a = some o → h₄.get? a = some o ∧ a ∉ [C] ++ Hc := fun a o ha e => ⟨k₄ a o (neI a fun q => ha ((inX a).mpr (.inr (.inr (.inl q))))) e, ha⟩
        have r₄ : Rep h₄ ([C] ++ Hc) ds[i] v := (hP₃ i v _ pv hdi).mono key4
        refine assign_Name (J₄.store (.inl hxl) r₄ fun s₅ x₅ J₅ => ?_)
        rw [hσ'] at J₅
        rw [List.drop_eq_getElem_cons hlt] at L₃
        have neC : ∀ b, b ≠ C → b ∉ [C] := fun b hb => by simpa using hb
        have k35 : Kp s s₅ := ⟨by obtain ⟨h, tk, e, ht⟩ := k34.same; obtain ⟨h', tk', e', ht'⟩ := x₅.same; exact ⟨h', tk', by rw [e', e], Nat.le_trans ht (by rw [e] at ht'; exact ht')⟩, fun b o e => x₅.keep b o (neC b (below b o (k₂.get b o e)).1) (k34.get b o e)⟩
        have st₅ : St (i + 1) s₅.heap := W.frame _ _ _ st₄ fun b hb o e => x₅.keep b o (neC b (fpC b hb).1) e
        have up : ∀ a o, a ∉ [C] ++ Hc → s₃.heap.get? a = some o → s₅.heap.get? a = some o ∧ a ∉ [C] ++ Hc := fun a o ha e => ⟨x₅.keep a o (fun q => ha (List.mem_append_left _ q)) (key4 a o ha e).1, ha⟩
        have hacc₅ : s₅.heap.PlainList Dd ys.toArray := hacc₃.at fun o e => x₅.keep Dd o (neC Dd hDC) (k₄ Dd o (neI Dd ICD.2.symm) e)
        have hes₅ := hes.mono up
        have hP₅ : ∀ i v d, P i v → ds[i]? = some d → Rep s₅.heap ([C] ++ Hc) d v := fun j u d pu hd => (hP₃ j u d pu hd).mono up
        have hno₅ : NoOwn ((compσ scope σ).set x (.dat ds[i])) := noσ₀.set _ _
        have goOn : ∀ s₆, Kp s₅ s₆ → CompP prog w B A cenv (compσ scope σ) x ifs elt (ds.drop (i + 1)) (fun rest => Q (es ++ rest)) → ∃ m, m < ds.length + 1 - i ∧ ∃ i' es' ys' σ', m = ds.length + 1 - i' ∧ i' ≤ ds.length ∧ St i' s₆.heap ∧ Inv B [C] Hc cenv σ' s₆ ∧ (∀ d, σ'.set x d = (compσ scope σ).set x d) ∧ NoOwn σ' ∧ s₆.heap.PlainList Dd (List.toArray ys') ∧ Reps s₆.heap ([C] ++ Hc) es' ys' ∧
            es'.length ≤ i' ∧ CompP prog w B A cenv (compσ scope σ) x ifs elt (ds.drop i') (fun rest => Q (es' ++ rest)) ∧ Kp s s₆ ∧ (∀ i v d, P i v → ds[i]? = some d → Rep s₆.heap ([C] ++ Hc) d v) := fun s₆ k₆ L₆ =>
          ⟨ds.length + 1 - (i + 1), by omega, i + 1, es, ys, _, rfl, by omega, W.frame _ _ _ st₅ fun b hb o e => k₆.get b o e, J₅.keeps k₆, fun d => Store.set_set .., hno₅, hacc₅.at fun o e => k₆.get _ o e, hes₅.keeps k₆.get, by omega, L₆, k35.trans k₆,
            fun j u d pu hd => (hP₅ j u d pu hd).keeps k₆.get⟩
        have goElt : ∀ s₆, Kp s₅ s₆ → WE prog w B A cenv ((compσ scope σ).set x (.dat ds[i])) elt (fun e => CompP prog w B A cenv (compσ scope σ) x ifs elt (ds.drop (i + 1)) (fun es' => Q (es ++ e :: es'))) →
            wpAny (model prog w) A (eval elt cenv) (fun y s₇ => wpAny (model prog w) A (call (.builtin "list.append") [.ref Dd, y]) (fun _ s₈ => ∃ m, m < ds.length + 1 - i ∧ ∃ i' es' ys' σ', m = ds.length + 1 - i' ∧ i' ≤ ds.length ∧ St i' s₈.heap ∧ Inv B [C] Hc cenv σ' s₈ ∧ (∀ d, σ'.set x d = (compσ scope σ).set x d) ∧ NoOwn σ' ∧ s₈.heap.PlainList Dd (List.toArray ys') ∧ Reps s₈.heap ([C] ++ Hc) es' ys' ∧
            es'.length ≤ i' ∧ CompP prog w B A cenv (compσ scope σ) x ifs elt (ds.drop i') (fun rest => Q (es' ++ rest)) ∧ Kp s s₈ ∧ (∀ i v d, P i v → ds[i]? = some d → Rep s₈.heap ([C] ++ Hc) d v)) (notedBy (model prog w) A cenv fun e s' => RR (.ref Dd) C (.error e) s') s₇) (notedBy (model prog w) A cenv fun e s' => RR (.ref Dd) C (.error e) s') s₆ := fun s₆ k₆ L₆ => by
          refine wpAny_mono (L₆ [C] Hc s₆ (J₅.keeps k₆)) (fun y s₇ ⟨k₇, d, r, L₇⟩ => ?_) fun _ _ f => f.elim
          have k57 := k₆.trans k₇
          have hacc₇ : s₇.heap.PlainList Dd ys.toArray := hacc₅.at fun o e => k57.get _ o e
          have J₇ := J₅.keeps k57
          refine wpAny_list_append_plain hacc₇ (fun h₈ hp hs => ?_) (by rw [List.size_toArray, hes.length]; unfold sizeLine; omega)
          have e : ys.toArray.push y = (ys ++ [y]).toArray := by simp
          rw [e] at hp
          obtain ⟨n8, ho8⟩ := id hp
          have J₈ : Inv B [C] Hc cenv ((compσ scope σ).set x (.dat ds[i])) { s₇ with heap := h₈ } := J₇.change (p := Dd) ((inX Dd).mpr (.inr (.inl rfl))) hDC (fun y c e => (cne y c e).2.1) hno₅ ⟨h₈, s₇.toks, rfl, Nat.le_refl _⟩ ⟨_, ho8⟩ fun b o hb e => (hs.2 b hb).trans e
          have neD : ∀ a, a ∉ [C] ++ Hc → a ≠ Dd := fun a ha q => ha ((inX a).mpr (.inr (.inl q)))
          have up8 : ∀ a o, a ∉ [C] ++ Hc → s₇.heap.get? a = some o → h₈.get? a = some o ∧ a ∉ [C] ++ Hc := fun a o ha e => ⟨(hs.2 a (neD a ha)).trans e, ha⟩
          refine ⟨ds.length + 1 - (i + 1), by omega, i + 1, es ++ [d], ys ++ [y], _, rfl, by omega, W.frame _ _ _ st₅ fun b hb o e => (hs.2 b (fpC b hb).2).trans (k57.get b o e), J₈, fun d => Store.set_set .., hno₅, hp, ?_, by simp; omega, ?_, ?_, fun j u d pu hd => ((hP₅ j u d pu hd).keeps k57.get).mono up8⟩
          · exact (((hes₅.keeps k57.get)).append (Reps.one r)).mono up8
          · simpa using L₇
          · refine ⟨by obtain ⟨h, tk, e, ht⟩ := (k35.trans k57).same; exact ⟨h₈, s₇.toks, by rw [e], by rw [e]; exact ht⟩, fun b o e => (hs.2 b (below b o (k₂.get b o e)).2).trans ((k35.trans k57).get b o e)⟩
        refine wpAny_mono (WTs.wp L₃ J₅) (fun ok s₆ ⟨k₆, L₆⟩ => ?_) fun _ _ f => f.elim
        cases ok with
        | true => simp only [if_true] at L₆ ⊢; exact goElt s₆ k₆ L₆
        | false => simp only [Bool.false_eq_true, if_false] at L₆ ⊢; exact goOn s₆ k₆ L₆
      · have hi' : i = ds.length := by omega
        subst hi'
        refine wpAny_with_toks (n := s₃.toks) (Nat.le_refl _) (W.done s₃ _ _ st₃ fun h₄ tk₄ k₄ ht₄ => ?_)
        rw [List.drop_of_length_le (Nat.le_refl _)] at L₃
        obtain ⟨m₃, _, ns₃, _, _⟩ := J₃.vars
        refine hR C Dd ys es m₃ _ ?_ nC nD (Ne.symm hDC) (ns₃.at' fun o e => k₄ _ o (neI _ ICD.1.symm) e) (hacc₃.at fun o e => k₄ _ o (neI _ ICD.2.symm) e) ?_ (by simpa [CompP] using L₃)
        · exact ⟨by obtain ⟨h, tk, e, ht⟩ := k₃.same; exact ⟨h₄, tk₄, by rw [e], Nat.le_trans ht (by rw [e] at ht₄; exact ht₄)⟩, fun b o e => k₄ b o (neI b (fun q => by subst q; rw [t.fresh] at e; cases e)) (k₃.get b o e)⟩
        · refine hes.mono fun a o ha e => ⟨k₄ a o (neI a fun q => ha ((inX a).mpr (.inr (.inr (.inl q))))) e, fun q => ha ((inX a).mpr ?_)⟩
          rcases List.mem_cons.mp q with q | q
          · exact .inr (.inl q)
          · rcases List.mem_cons.mp q with q | q
            · exact .inl q
            · exact .inr (.inr (.inr q))
    · intro i v d pv hd
      refine (hP i v d pv hd).mono fun a o ha e => ⟨k₁ a o e, fun q => ?_⟩
      have hb := below a o e
      rcases (inX a).mp q with q | q | q | q
      · exact hb.1 q
      · exact hb.2 q
      · exact ha (by subst q; simp)
      · exact ha (List.mem_cons_of_mem _ q)
  exact codeAny_compStart_list loop (W.self 0 _ _ _ (W.frame _ _ _ st fun b _ o e => k₁ b o e) loop)

/-- a comprehension's conditions upon its scope -/
structure CompOk (env : Env) (σ : Store) (scope : Scope) (x : Str) : Prop where
  free : ∀ y ∈ scope.names, y.2 = .free → (env.kindOf y.1 = some .cell ∧ (env.cells.lookup y.1).isSome = true)
  cell : ∀ y ∈ scope.names, y.2 ≠ .cell
  kind : scope.kind = .function
  names : ∀ y ∈ scope.names, y.2 = .local → scope.names.lookup y.1 = some .local
  var : scope.names.lookup x = some .local

theorem WE_listcomp {elt iter : Expr} {x : Str} {px : Pos} {ifs : List Expr} {scope : Scope} {pos : Pos} {Q : D → Prop} (ok : CompOk env σ scope x)
    (h : WI prog w B A env σ iter (fun ds => ds.length ≤ 2 ^ 24 ∧ ∀ C cl, CompP prog w B A (compEnvC scope cl C env) (compσ scope σ) x ifs elt ds (fun es => Q (.lst es))))
    (hs : ∀ x, foldedSetIterable iter env x = pure x := by intro _; rfl) : WE prog w B A env σ (.ListComp elt [⟨.Name x px, iter, ifs, 0⟩] scope pos) Q := fun O Hd s J => by
  obtain ⟨cl, h1, h2, h3⟩ := closure_of (env := env) (scope := scope) (fun y hy hf => (ok.free y hy hf).2)
  rw [eval_ListComp]
  refine wpAny_comprehension_free (use := none) rfl hs h1 ok.kind ok.names (wpAny_mono (h O Hd s J) (fun xv s₁ h₁ => wpAny_mono h₁ (fun it s₂ ⟨k₂, I, ds, e, t, hsz, L⟩ => ?_) fun _ _ e => e) fun _ _ e => e)
  subst e
  refine comp_core (RR := fun acc C => compPost (model prog w) A no none (fun v s' => Kp s s' ∧ ∃ d, Rep s'.heap (O ++ Hd) d v ∧ Q d) acc C) J k₂ t hsz h2 (fun y hy hf => ⟨h3 y hy hf, .inl (ok.free y hy hf).1⟩) ok.cell ok.kind ok.var (fun C => L C cl) ?_
  intro C D ys es m s' k hC hD hCD ns hl hr q
  refine ⟨m, ns, fun h' hs' => ⟨⟨by obtain ⟨h, tk, e, ht⟩ := k.same; exact ⟨h', s'.toks, by rw [e], by rw [e]; exact ht⟩, fun b o e => (hs'.2 b (fun z => by subst z; rw [hC] at e; cases e)).trans (k.get b o e)⟩, .lst es, ?_, q⟩⟩
  refine rep_lst (vs := ys) ?_ (hl.at fun o e => (hs'.2 D (Ne.symm hCD)).trans e) (hr.mono fun a o ha e => ⟨(hs'.2 a (fun z => ha (by subst z; simp))).trans e, fun z => ha (List.mem_cons_of_mem _ (List.mem_cons_of_mem _ z))⟩)
  intro z
  obtain ⟨o, ho⟩ := J.live D z
  rw [hD] at ho; cases ho

theorem WX_assign_comp {elt iter : Expr} {x y : Str} {px py : Pos} {ifs : List Expr} {scope : Scope} {pos spos : Pos} {Q : Out → Store → Prop} (hf : env.func.isSome = true) (hy : canStore env y) (ok : CompOk env σ scope x)
    (h : WI prog w B A env σ iter (fun ds => ds.length ≤ 2 ^ 24 ∧ ∀ C cl, CompP prog w B A (compEnvC scope cl C env) (compσ scope σ) x ifs elt ds (fun es => Q .next (σ.set y (.dat (.lst es))))))
    (hsw : swapsWith (.ListComp elt [⟨.Name x px, iter, ifs, 0⟩] scope pos) (some (.Name y py)) spos.line env = pure true := by rfl)
    (hs : ∀ x, foldedSetIterable iter env x = pure x := by intro _; rfl) : WX prog w B A env σ (.Assign [.Name y py] (.ListComp elt [⟨.Name x px, iter, ifs, 0⟩] scope pos) spos) Q := fun O Hd s J => by
  obtain ⟨cl, h1, h2, h3⟩ := closure_of (env := env) (scope := scope) (fun y hy hf => (ok.free y hy hf).2)
  rw [exec_Assign_Name_used y py _ spos hsw]
  suffices core : wpAny (model prog w) A (comprehension (.ListComp elt [⟨.Name x px, iter, ifs, 0⟩] scope pos) scope env (firstIterPos [⟨.Name x px, iter, ifs, 0⟩] pos) (newList []) (firstAsync [⟨.Name x px, iter, ifs, 0⟩]) (firstIter [⟨.Name x px, iter, ifs, 0⟩] env) (some (assign (.Name y py) env)))
      (fun _ s' => ∃ O' o σ', Ext O s O' s' ∧ Inv B O' Hd env σ' s' ∧ FlowIs s'.heap (O' ++ Hd) o .next ∧ Q o σ') no s by
    refine wpAny_bind (wpAny_standAt (wpAny_bind ?_))
    show wpAny _ _ (do let _ ← comprehension (.ListComp elt [⟨.Name x px, iter, ifs, 0⟩] scope pos) scope env (firstIterPos [⟨.Name x px, iter, ifs, 0⟩] pos) (newList []) (firstAsync [⟨.Name x px, iter, ifs, 0⟩]) (firstIter [⟨.Name x px, iter, ifs, 0⟩] env) (some (assign (.Name y py) env))) _ _ s
    refine wpAny_bind (wpAny_mono core (fun _ s' q => ?_) fun _ _ f => f)
    exact wpAny_pure (wpAny_pure q)
  refine wpAny_comprehension_free (Q := fun _ s' => ∃ O' o σ', Ext O s O' s' ∧ Inv B O' Hd env σ' s' ∧ FlowIs s'.heap (O' ++ Hd) o .next ∧ Q o σ') (E := no) rfl hs h1 ok.kind ok.names (wpAny_mono (h O Hd s J) (fun xv s₁ h₁ => wpAny_mono h₁ (fun it s₂ ⟨k₂, I, ds, e, t, hsz, L⟩ => ?_) fun _ _ e => e) fun _ _ e => e)
  subst e
  refine comp_core (RR := fun acc C => compPost (model prog w) A no (some (assign (.Name y py) env)) (fun _ s' => ∃ O' o σ', Ext O s O' s' ∧ Inv B O' Hd env σ' s' ∧ FlowIs s'.heap (O' ++ Hd) o .next ∧ Q o σ') acc C) J k₂ t hsz h2 (fun y hy hf => ⟨h3 y hy hf, .inl (ok.free y hy hf).1⟩) ok.cell ok.kind ok.var (fun C => L C cl) ?_
  intro C D ys es m s' k hC hD hCD ns hl hr q
  have JC : Inv B O (C :: Hd) env σ s' := by
    have := J.grow (N₁ := []) (N₂ := [C]) k (by simp) (by intro a ha; simp at ha; subst ha; obtain ⟨o, _, _, ho, _⟩ := ns; exact ⟨hC, o, ho⟩)
    simpa using this
  have nHd : C ∉ Hd := fun z => by obtain ⟨o, ho⟩ := J.live C (List.mem_append_right _ z); rw [hC] at ho; cases ho
  have rl : Rep s'.heap (O ++ C :: Hd) (.lst es) (.ref D) := by
    refine rep_lst (vs := ys) ?_ hl (hr.mono fun a o ha e => ⟨e, fun z => ha ?_⟩)
    · intro z
      rcases List.mem_append.mp z with z | z
      · obtain ⟨o, ho⟩ := J.live D (List.mem_append_left _ z); rw [hD] at ho; cases ho
      · rcases List.mem_cons.mp z with z | z
        · exact hCD z.symm
        · obtain ⟨o, ho⟩ := J.live D (List.mem_append_right _ z); rw [hD] at ho; cases ho
    · rcases List.mem_append.mp z with z | z
      · exact List.mem_cons_of_mem _ (List.mem_cons_of_mem _ (List.mem_append_left _ z))
      · rcases List.mem_cons.mp z with z | z
        · subst z; simp
        · exact List.mem_cons_of_mem _ (List.mem_cons_of_mem _ (List.mem_append_right _ z))
  have COn : C ∉ O := fun z => by obtain ⟨o, ho⟩ := J.live C (List.mem_append_left _ z); rw [hC] at ho; cases ho
  refine assign_Name (JC.store hy rl fun s'' x'' i'' => ⟨m, ?_, fun h' hs' => ⟨O, .next, _, ?_, i''.unhold hf nHd ⟨h', s''.toks, rfl, Nat.le_refl _⟩ fun b o hb e => (hs'.2 b hb).trans e, rfl, q⟩⟩)
  · exact ns.at' fun o e => x''.keep C o COn e
  · refine ⟨by obtain ⟨h, tk, e, ht⟩ := k.same; obtain ⟨h₂, tk₂, e₂, ht₂⟩ := x''.same; exact ⟨h', s''.toks, by rw [e₂, e], by rw [e₂]; exact Nat.le_trans ht (by rw [e] at ht₂; exact ht₂)⟩, fun b o hb e => (hs'.2 b (fun z => by subst z; rw [hC] at e; cases e)).trans (x''.keep b o hb (k.get b o e)), fun _ h => .inl h⟩
end
end Mine

end
section
open PySem PySem.W PySem.Calls PyProof.Rows PySem.SeqAt
namespace Mine

/-- equality of plain items -/
noncomputable def eqD : D → D → Option Bool
  | .int a, .int b => some (a == b)
  | .flt a, .flt b => if (Float64.cmp a b == some .eq) = true then some true else none
  | .typ a, .typ b => if (a == b) = true then some true else none
  | _, _ => none
noncomputable def eqL : List D → List D → Option Bool
  | [], [] => some true
  | a :: as, b :: bs => match eqD a b, eqL as bs with
    | some x, some y => some (x && y)
    | _, _ => none
  | _, _ => none

section
variable {prog : Program} {w : World} {B : Shared} {A : Around} {env : Env} {σ : Store}

theorem EqAt.flt {s : Shared} {a b : UInt64} {t u : Tok} (h : (Float64.cmp a b == some .eq) = true) (ht : t ≠ 0) (hu : u ≠ 0) (hb : NoneBooked s.heap) : EqAt A s (.float a t) (.float b u) true := fun prog w E Q hq => by
  unfold eqBool
  refine wpAny_holding ?_
  by_cases hab : (Value.float a t == Value.float b u) = true
  · rw [if_pos hab]
    exact wpAny_bind (wpAny_rule (wpAny_pure hq))
  · rw [if_neg hab]
    have key : wpAny (model prog w) A (isSame (.float a t) (.float b u)) (fun _ s' => s' = s) E s := by
      show wpAny _ A (isSame.created (a == b && !Float64.isNaN a) t u) _ E s
      unfold isSame.created
      refine wpAny_ite ?_
      split
      · rename_i h; simp at h; rcases h with h | h
        · exact absurd h ht
        · exact absurd h hu
      refine wpAny_ite ?_
      split
      · exact wpAny_pure rfl
      refine wpAny_ite ?_
      split
      · exact wpAny_pure rfl
      refine wpAny_bind (wpAny_sharingNotTold_none hb ?_)
      first | rw [if_neg Bool.false_ne_true] | simp only [Bool.false_eq_true, if_false]
      refine wpAny_bind (wpAny_sharingNotTold_none hb ?_)
      first | rw [if_neg Bool.false_ne_true] | simp only [Bool.false_eq_true, if_false]
      exact wpAny_bind (wpAny_rule (wpAny_bind (wpAny_askSetting (wpAny_pure rfl))))
    have rc : wpAny (model prog w) A (richCompare .Eq (.float a t) (.float b u)) (fun v s' => v = .bool true ∧ s' = s) E s := AutoFloatOps.eq_0 (Q := fun v s' => v = .bool true ∧ s' = s) ⟨by rw [h], rfl⟩
    refine wpAny_bind (wpAny_mono key (fun c s' hs => ?_) fun _ _ e => e)
    subst hs
    cases c with
    | true => exact wpAny_pure hq
    | false =>
      refine wpAny_bind (wpAny_mono rc (fun v s' hv => ?_) fun _ _ e => e)
      obtain ⟨rfl, rfl⟩ := hv
      exact wpAny_truthy_bool hq

theorem eqD_at {s : Shared} {X : List Addr} {a b : D} {va vb : Value} {r : Bool} (h : eqD a b = some r) (hb : NoneBooked s.heap) (ra : Rep s.heap X a va) (rb : Rep s.heap X b vb) : EqAt A s va vb r := by
  unfold eqD at h
  split at h
  · cases h
    obtain ⟨t, rfl⟩ := ra.int_inv; obtain ⟨u, rfl⟩ := rb.int_inv
    exact EqAt.int_int _ _ _ _
  · split at h
    · rename_i hc
      cases h
      obtain ⟨t, rfl, ht⟩ := ra.flt_inv; obtain ⟨u, rfl, hu⟩ := rb.flt_inv
      exact EqAt.flt hc ht hu hb
    · cases h
  · split at h
    · rename_i hc
      cases h
      cases ra.typ_inv; cases rb.typ_inv
      rw [beq_iff_eq.mp hc]
      exact EqAt.same _
    · cases h
  · cases h

theorem eqL_len : ∀ {as bs : List D} {r : Bool}, eqL as bs = some r → as.length = bs.length
  | [], [], _, _ => rfl
  | [], _ :: _, _, h => by simp [eqL] at h
  | _ :: _, [], _, h => by simp [eqL] at h
  | a :: as, b :: bs, r, h => by
    simp only [eqL] at h
    split at h
    · rename_i x y hx hy
      rw [List.length_cons, List.length_cons, eqL_len hy]
    · cases h

theorem eqL_all : ∀ {as bs : List D} {r : Bool}, eqL as bs = some r → ∃ e : Nat → Bool, (∀ (j : Nat) a b, as[j]? = some a → bs[j]? = some b → eqD a b = some (e j)) ∧ (List.range as.length).all e = r
  | [], [], r, h => ⟨fun _ => true, by simp, by simpa [eqL] using h⟩
  | [], _ :: _, _, h => by simp [eqL] at h
  | _ :: _, [], _, h => by simp [eqL] at h
  | a :: as, b :: bs, r, h => by
    simp only [eqL] at h
    split at h
    · rename_i x y hx hy
      cases h
      obtain ⟨e, h1, h2⟩ := eqL_all hy
      refine ⟨fun j => match j with | 0 => x | j + 1 => e j, fun j a' b' ha hb => ?_, ?_⟩
      · cases j with
        | zero => simp at ha hb; subst ha hb; exact hx
        | succ j => simp at ha hb; exact h1 j a' b' ha hb
      · rw [List.length_cons, List.range_succ_eq_map, List.all_cons, List.all_map, ← h2]
        rfl
    · cases h

theorem eqL_places {s : Shared} {X : List Addr} {as bs : List D} {vs ws : List Value} {r : Bool} (h : eqL as bs = some r) (hb : NoneBooked s.heap) (ra : Reps s.heap X as vs) (rb : Reps s.heap X bs ws) :
    vs.toArray.size = ws.toArray.size ∧ ∃ e : Nat → Bool, (∀ j (h1 : j < vs.toArray.size) (h2 : j < ws.toArray.size), EqAt A s vs.toArray[j] ws.toArray[j] (e j)) ∧ (List.range vs.toArray.size).all e = r := by
  have e1 := ra.length; have e2 := rb.length; have e3 := eqL_len h
  obtain ⟨e, h1, h2⟩ := eqL_all h
  refine ⟨by simp; omega, e, fun j hj1 hj2 => ?_, by rw [List.size_toArray, e1]; exact h2⟩
  simp at hj1 hj2
  obtain ⟨a, ha, r1⟩ := ra.get (i := j) (v := vs[j]) (by simp [hj1])
  obtain ⟨b, hb', r2⟩ := rb.get (i := j) (v := ws[j]) (by simp [hj2])
  simpa using eqD_at (A := A) (h1 j a b ha hb') hb r1 r2

theorem Grd.told {mg mb : Str → Option Value} {X : List Addr} {s : Shared} (g : Grd B X s) (G : Base B mg mb) : NoneBooked s.heap := by
  obtain ⟨mc, h1, h2⟩ := G.told
  exact ⟨mc, h1.keeps fun b o e => (g.base b o e).1, h2⟩

theorem CO_ne_ll {mg mb : Str → Option Value} (G : Base B mg mb) {as bs : List D} {r : Bool} {Q : Bool → Prop} (hU : A.units < cLine) (h : eqL as bs = some r) (q : Q (!r)) : CO prog w B A .NotEq (.lst as) (.lst bs) Q := fun X s va vb g ra rb => by
  obtain ⟨a, vs, rfl, ha, hl, hr⟩ := ra.lst_inv; obtain ⟨b, ws, rfl, hb, hl', hr'⟩ := rb.lst_inv
  obtain ⟨hsz, e, he, hall⟩ := eqL_places (A := A.in1) h (g.told G) hr hr'
  refine RcNeAt.lists hl.isList hl'.isList hsz hU he prog w no _ ?_
  exact ⟨Kp.refl _, _, rfl, by rw [hall]; exact q⟩
theorem CO_ne_tt {mg mb : Str → Option Value} (G : Base B mg mb) {as bs : List D} {r : Bool} {Q : Bool → Prop} (hU : A.units < cLine) (h : eqL as bs = some r) (q : Q (!r)) : CO prog w B A .NotEq (.tup as) (.tup bs) Q := fun X s va vb g ra rb => by
  obtain ⟨a, vs, rfl, ha, hl, hr⟩ := ra.tup_inv; obtain ⟨b, ws, rfl, hb, hl', hr'⟩ := rb.tup_inv
  obtain ⟨hsz, e, he, hall⟩ := eqL_places (A := A.in1) h (g.told G) hr hr'
  refine RcNeAt.tuples hl.isTuple hl'.isTuple hU he prog w no _ ?_
  refine ⟨Kp.refl _, _, rfl, ?_⟩
  rw [← hsz, Nat.min_self, hall]
  simpa using q
theorem WC_len_l {ds : List D} {Q : D → Prop} (hfit : ds.length < 2 ^ 30) (q : Q (.int ds.length)) : WC prog w B A (.builtin "len") [.lst ds] Q := fun X s vals g r => by
  obtain ⟨v, r₁, rfl, h1, h2⟩ := r
  cases h2
  obtain ⟨a, vs, rfl, ha, hl, hr⟩ := h1.lst_inv
  refine call_len_list hl.isList (by simp [hr.length]; omega) ?_
  refine ⟨Kp.tok _ _ (by show s.toks ≤ s.toks + 1 + 1; omega), .int ds.length, ?_, q⟩
  have : ((vs.toArray.size : Nat) : Int) = ds.length := by simp [hr.length]
  rw [this]; exact rep_int
/-- round(x) of a finite float -/
noncomputable def roundF (x : UInt64) : Int := PySem.Flt.toInt Float64.nearestOf x
theorem WC_round {x : UInt64} {Q : D → Prop} (hA : A.handled = none) (hx : Float64.isFinite x = true) (q : Q (.int (roundF x))) : WC prog w B A (.builtin "round") [.flt x] Q := fun X s vals g r => by
  obtain ⟨v, r₁, rfl, h1, h2⟩ := r
  cases h2
  obtain ⟨t, rfl, ht⟩ := h1.flt_inv
  refine PySem.Flt.call_round_float hA (fun h => ?_) (fun h => ?_) (fun _ => ⟨Kp.tok _ _, _, rep_int, q⟩)
  · unfold Float64.isFinite at hx; unfold Float64.isNaN at h
    cases hd : Float64.decode x <;> rw [hd] at hx h <;> simp at hx h
  · unfold Float64.isFinite at hx; unfold Float64.isInf at h
    cases hd : Float64.decode x <;> rw [hd] at hx h <;> simp at hx h
end
end Mine

end
section
open PySem PySem.W PySem.Calls PyProof.Rows PySem.SeqAt
namespace Mine

section
variable {prog : Program} {w : World} {B : Shared} {A : Around} {env : Env} {σ : Store}

/-- a first parameter that is a plain local: behind its store a token has been drawn -/
theorem newEnv_pos {M : Model} {E : Value → Shared → Prop} {s : Shared} {scope : Scope} {globals : Addr} {n : Str} {v : Value} {qual : Str} {func : Option Addr} {code : Value} {builtins : Addr} {Q : Env → Shared → Prop}
    (hk : scope.kind = .function) (hn : scope.names.lookup n = some .local)
    (hQ : ∀ env, env = newEnv scope s.heap.objs.size globals (cellsFrom (s.heap.objs.size + 1) scope.names []) qual func code none builtins →
      ∀ s', InCallC s env.locals (bindL env.kindOf [(n, v)] fun _ => none) env.cells (bindC env.kindOf [(n, v)] fun _ => none) s' → 1 ≤ s'.toks → Q env s') :
    wpAny M A (newFunctionEnv scope globals [] [(n, v)] qual func code none builtins) Q E s := by
  simp only [newFunctionEnv, Option.isSome_none, Bool.false_eq_true, if_false]
  refine wpAny_bind (wpAny_alloc ?_)
  refine wpAny_bind (wpAny_layCells _ (fun name kind cells => by cases hkc : kind == NameKind.cell <;> simp [hkc]) _ _ _ _ ?_)
  have ok := cellsFrom_ok scope.names (s.heap.push { cls := .type "frame", data := .dict #[] }) (s.heap.objs.size + 1) [] ⟨fun _ _ hm => (nomatch hm), List.Pairwise.nil⟩ (by rw [Heap.size_push]; exact Nat.le_refl _)
  rw [Heap.size_push] at ok
  rw [show ({ s with heap := s.heap.push { cls := .type "frame", data := .dict #[] } } : Shared).heap.objs.size = s.heap.objs.size + 1 from Heap.size_push ..]
  have x0 : InCallC s (newEnv scope s.heap.objs.size globals (cellsFrom (s.heap.objs.size + 1) scope.names []) qual func code none builtins).locals (fun _ => none) (newEnv scope s.heap.objs.size globals (cellsFrom (s.heap.objs.size + 1) scope.names []) qual func code none builtins).cells (fun _ => none)
      { s with heap := pushCells (s.heap.push { cls := .type "frame", data := .dict #[] }) scope.names } :=
    ⟨⟨⟨_, s.toks, rfl⟩, (Heap.Ns.new s.heap (.type "frame")).keeps (pushCells_keeps _ _), fun b o e => pushCells_keeps _ _ b o (Heap.get?_push_of_some _ e), Nat.le_refl _⟩,
      fun n c hc => (ok.empty n c (PySem.mem_of_lookup hc)).1, ok.apart, fun n c hm => (ok.empty n c hm).2⟩
  rw [List.forIn_cons]
  have hkl : (newEnv scope s.heap.objs.size globals (cellsFrom (s.heap.objs.size + 1) scope.names []) qual func code none builtins).kindOf n = some .local := hn
  have hkk : (newEnv scope s.heap.objs.size globals (cellsFrom (s.heap.objs.size + 1) scope.names []) qual func code none builtins).scope.kind = .function := hk
  refine wpAny_bind (wpAny_bind (wpAny_bind ?_))
  refine wpAny_mono (Q := fun _ s' => 1 ≤ s'.toks ∧ InCallC s (newEnv scope s.heap.objs.size globals (cellsFrom (s.heap.objs.size + 1) scope.names []) qual func code none builtins).locals (fun y => if y = n then some v else none) (newEnv scope s.heap.objs.size globals (cellsFrom (s.heap.objs.size + 1) scope.names []) qual func code none builtins).cells (fun _ => none) s') ?_ ?_ (fun _ _ e => e)
  · refine wpAny_storeName_local hkl x0.toInCall.ns (fun h' hn' hs' => ⟨Nat.le_add_left _ _, ⟨⟨⟨h', _, rfl⟩, hn', fun b o e => ?_, x0.toInCall.fresh⟩, fun k c hc => ?_, x0.apart, x0.above⟩⟩) (by show (scope.kind == .class || (scope.kind == .module && _)) = false; rw [hk]; rfl)
    · exact hs'.extBut b o (Nat.ne_of_lt (Nat.lt_of_lt_of_le (Heap.lt_size e) x0.toInCall.fresh)) (x0.toInCall.keep b o e)
    · exact (x0.cell k c hc).sameBut hs' (Nat.ne_of_gt (x0.above k c (PySem.mem_of_lookup hc)))
  · rintro _ s' ⟨h1, x1⟩
    refine wpAny_pure (wpAny_pure (wpAny_pure (hQ _ rfl s' ?_ h1)))
    unfold bindL bindL bindC bindC
    rw [if_pos hkl, if_pos hkl]
    exact x1

noncomputable def ndB : List Str → Bool
  | [] => true
  | x :: r => !(r.contains x) && ndB r
theorem ndB_nodup : ∀ {l : List Str}, ndB l = true → l.Nodup
  | [], _ => .nil
  | x :: r, h => by
    simp only [ndB, Bool.and_eq_true, Bool.not_eq_true'] at h
    refine List.nodup_cons.mpr ⟨fun q => ?_, ndB_nodup h.2⟩
    have := h.1
    rw [List.contains_iff_mem.mpr q] at this
    cases this

theorem law_call {mg mb : Str → Option Value} (G : Base B mg mb) {x : Str} {f : Addr} {fd : FuncData} (H : FnAt B mg x f fd) {n : Str} {d : D} {v : Value} {body : List Stmt}
    (hroom : A.depth < recursionLimit) (hbody : fd.body = .stmts body) (hclo : fd.closure = []) (hgl : fd.globals = mainGlobals) (hbl : fd.builtins = builtinsNs)
    (hco : fd.scope.isCoroutine = false) (hgen : fd.scope.isGenerator = false) (hk : fd.scope.kind = .function) (hnd' : ndB ((cellsFrom 0 fd.scope.names []).map (·.1)) = true)
    (hbind : bindArgs fd ⟨[v], []⟩ = pure [(n, v)]) (hn : fd.scope.names.lookup n = some .local) (r : Rep B.heap [] d v)
    (h : ∀ L, WS prog w B (A.deeper (callEnvC fd L f)) (callEnvC fd L f) (paramsAre [n] [d]) body (fun o _ => o = .ret (.bool true))) :
    wpAny (model prog w) A (call (.ref f) [v]) (fun u s' => u = .bool true ∧ (∀ b o, B.heap.get? b = some o → s'.heap.get? b = some o) ∧ s'.gens = B.gens ∧ s'.os = B.os) no B := by
  have hnd := ndB_nodup hnd'
  obtain ⟨o, ho, hdat⟩ := H.obj
  refine wpAny_call (codeAny_call_function hroom ho hdat hco hgen hbody H.code ?_)
  rw [hbind, hclo]
  refine wpAny_pure (newEnv_pos hk hn fun env he s₁ x ht => ?_)
  subst he
  refine ⟨G.nolimit.keeps x.toInCall.keep, codeAny_func ?_⟩
  -- the ground with a token drawn
  have key : ∀ a, a ∈ B.heap.objs.size :: (callEnvC fd B.heap.objs.size f).cells.map (·.2) → B.heap.objs.size ≤ a := fun a ha => by
    rcases List.mem_cons.mp ha with q | q
    · exact Nat.le_of_eq q.symm
    · obtain ⟨⟨n, c⟩, h1, h2⟩ := List.mem_map.mp q
      subst h2
      exact Nat.le_of_lt (x.above n c h1)
  have cellAt : ∀ n c, (callEnvC fd B.heap.objs.size f).cells.lookup n = some c → (n, c) ∈ (callEnvC fd B.heap.objs.size f).cells := fun n c e => PySem.mem_of_lookup e
  have new : ∀ a o, B.heap.get? a = some o → a ∉ (B.heap.objs.size :: (callEnvC fd B.heap.objs.size f).cells.map (·.2)) ++ [] := fun a o e q => by
    rw [List.append_nil] at q
    exact absurd (Heap.lt_size e) (Nat.not_lt.mpr (key a q))
  have J : Inv B (B.heap.objs.size :: (callEnvC fd B.heap.objs.size f).cells.map (·.2)) [] (callEnvC fd B.heap.objs.size f) (paramsAre [n] [d]) s₁ := by
    refine ⟨?_, fun b o e => ⟨x.toInCall.keep b o e, new b o e⟩, fun a ha => ?_, fun _ _ q => (by cases q), hk, hgl, hbl, List.mem_cons_self, fun _ y c e => List.mem_cons_of_mem _ (List.mem_map.mpr ⟨_, cellAt y c e, rfl⟩), fun y c e => Nat.ne_of_gt (x.above y c (cellAt y c e)),
      fun y z c e e' => name_of_addr x.apart (cellAt y c e) (cellAt z c e'), ⟨_, _, x.toInCall.ns, x.cell, fun y sl e => ?_⟩, fun y z ds es e => ?_⟩
    · obtain ⟨h, tk, e⟩ := x.toInCall.same; exact ⟨h, tk, e, by subst e; exact ht⟩
    · rw [List.append_nil] at ha
      rcases List.mem_cons.mp ha with q | q
      · obtain ⟨o, _, _, ho, _⟩ := x.toInCall.ns; subst q; exact ⟨o, ho⟩
      · obtain ⟨⟨n, c⟩, h1, h2⟩ := List.mem_map.mp q
        subst h2
        have e : (callEnvC fd B.heap.objs.size f).cells.lookup n = some c := lookup_of_mem_nodup (cellsFrom_names fd.scope.names 0 (B.heap.objs.size + 1) [] [] rfl ▸ hnd) h1
        obtain ⟨o, ho, _⟩ := x.cell n c e
        exact ⟨o, ho⟩
    · obtain ⟨d', v', h1, h2, h3⟩ := binds_hold (env := callEnvC fd B.heap.objs.size f) (h := B.heap) (X := []) [n] [d] [v] (fun _ => none) (fun _ => none) (fun _ => none) rfl (Reps.one r) (fun y hy => by simp at hy; subst hy; exact .inl hn) (fun _ _ e => by cases e) y sl e
      subst h1
      exact ⟨v', h2, Rep.mono (fun a o _ e => ⟨x.toInCall.keep a o e, new a o e⟩) h3⟩
    · obtain ⟨d', v', h1, _⟩ := binds_hold (env := callEnvC fd B.heap.objs.size f) (h := B.heap) (X := []) [n] [d] [v] (fun _ => none) (fun _ => none) (fun _ => none) rfl (Reps.one r) (fun y hy => by simp at hy; subst hy; exact .inl hn) (fun _ _ e => by cases e) y _ e
      cases h1
  refine wpAny_mono (h B.heap.objs.size _ [] s₁ J) (fun fl s' ⟨O', o, σ', x', i', fl', q⟩ => ?_) fun _ _ f => f.elim
  subst q
  obtain ⟨v', rfl, rv⟩ := fl'
  cases rv.bool_inv
  obtain ⟨h, tk, e, _⟩ := i'.same
  exact ⟨rfl, fun b o e => (i'.base b o e).1, by rw [e], by rw [e]⟩

/-- room for k more calls -/
structure Rm (k : Nat) (A : Around) : Prop where
  handled : A.handled = none
  depth : A.depth + k ≤ 900
  units : A.units + 4 * k ≤ 9000
theorem Rm.deeper {k : Nat} {A : Around} (r : Rm (k + 1) A) (env : Env) : Rm k (A.deeper env) := ⟨r.handled, by have := r.depth; show A.depth + 1 + k ≤ 900; omega, by have := r.units; show A.units + 3 + 4 * k ≤ 9000; omega⟩
theorem Rm.room {k : Nat} {A : Around} (r : Rm k A) : A.depth < recursionLimit := by have := r.depth; unfold recursionLimit; omega
theorem Rm.cl {k : Nat} {A : Around} (r : Rm k A) : A.units < cLine := by have := r.units; unfold cLine; omega
theorem Rm.caller : Rm 20 callerA := ⟨rfl, by decide, by decide⟩

/-- a def by its parts -/
theorem WC_doc {mg mb : Str → Option Value} (G : Base B mg mb) {x : Str} {f : Addr} {o : Obj} {name : Str} {params : Arguments} {scope : Scope} {pm cd doc : Value} {names : List Str} {args : List D} {body : List Stmt} {Q : D → Prop}
    (h1 : mg x = some (.ref f)) (h2 : B.heap.get? f = some o) (h3 : o.data = .func (docDef name params body scope pm cd doc)) (h4 : B.heap.CodeRec cd name)
    (hroom : A.depth < recursionLimit) (hl : args.length = names.length) (hbind : ∀ vals : List Value, vals.length = names.length → bindArgs (docDef name params body scope pm cd doc) ⟨vals, []⟩ = pure (names.zip vals))
    (hkind : ∀ L, ∀ y ∈ names, (callEnvC (docDef name params body scope pm cd doc) L f).kindOf y = some .local ∨ ((callEnvC (docDef name params body scope pm cd doc) L f).kindOf y = some .cell ∧ ((callEnvC (docDef name params body scope pm cd doc) L f).cells.lookup y).isSome = true))
    (h : ∀ L, WS prog w B (A.deeper (callEnvC (docDef name params body scope pm cd doc) L f)) (callEnvC (docDef name params body scope pm cd doc) L f) (paramsAre names args) body (fun o _ => match o with | .ret d => Q d | _ => False))
    (hco : scope.isCoroutine = false := by rfl) (hgen : scope.isGenerator = false := by rfl) (hk : scope.kind = .function := by rfl) (hnd : ndB ((cellsFrom 0 scope.names []).map (·.1)) = true := by rfl) : WC prog w B A (.ref f) args Q :=
  WC_def G ⟨h1, ⟨o, h2, h3⟩, h4⟩ hroom rfl rfl rfl rfl hco hgen hk (ndB_nodup hnd) hl hbind hkind h

theorem LoopP_inv {target : Expr} {body : List Stmt} {Q : Out → Store → Prop} (J : Nat → Store → Prop) : ∀ (ds : List D) (n : Nat) (σ : Store),
    (∀ i d σ, n ≤ i → ds[i - n]? = some d → J i σ → ∃ σ', WA prog w B A env σ target d σ' ∧ WS prog w B A env σ' body (fun o σ'' => o = .next ∧ J (i + 1) σ'')) → J n σ → (∀ σ, J (n + ds.length) σ → Q .next σ) → LoopP prog w B A env target body Q ds σ
  | [], n, σ, _, h0, hQ => hQ σ h0
  | d :: ds, n, σ, h, h0, hQ => by
    obtain ⟨σ', wa, ws⟩ := h n d σ (Nat.le_refl _) (by simp) h0
    refine ⟨σ', wa, WS.mono ws fun o σ'' ⟨ho, hj⟩ => ?_⟩
    subst ho
    refine LoopP_inv J ds (n + 1) σ'' (fun i e τ hi he hj => h i e τ (by omega) ?_ hj) hj (fun τ hj => hQ τ ?_)
    · rw [show i - n = (i - (n + 1)) + 1 by omega]; simpa using he
    · rw [List.length_cons, show n + (ds.length + 1) = n + 1 + ds.length by omega]; exact hj

/-- a loop by what holds of the store behind each turn -/
theorem LoopP_all {target : Expr} {body : List Stmt} {Q : Out → Store → Prop} (J : Nat → Store → Prop) {ds : List D} {σ : Store}
    (h : ∀ i d σ, ds[i]? = some d → J i σ → ∃ σ', WA prog w B A env σ target d σ' ∧ WS prog w B A env σ' body (fun o σ'' => o = .next ∧ J (i + 1) σ'')) (h0 : J 0 σ) (hQ : ∀ σ, J ds.length σ → Q .next σ) : LoopP prog w B A env target body Q ds σ :=
  LoopP_inv J ds 0 σ (fun i d σ _ hd hj => h i d σ (by simpa using hd) hj) h0 (fun σ hj => hQ σ (by simpa using hj))

theorem comp_get {scope : Scope} {σ : Store} {x y : Str} {d : Slot} {d' : D} (h : σ y = some (.dat d')) (hyx : decide (y = x) = false := by rfl) (hf : freeIn scope y = true := by rfl) : ((compσ scope σ).set x d) y = some (.dat d') := by
  unfold Store.set
  rw [if_neg (by simpa using hyx)]
  unfold compσ dataOf
  rw [if_pos hf, h]

/-- a comprehension all of whose items pass -/
theorem CompP_map {cenv : Env} {σ₀ : Store} {x : Str} {elt : Expr} (g : D → D) : ∀ (ds : List D) (Q : List D → Prop), (∀ d ∈ ds, WE prog w B A cenv (σ₀.set x (.dat d)) elt (fun e => e = g d)) → Q (ds.map g) → CompP prog w B A cenv σ₀ x [] elt ds Q
  | [], Q, _, q => q
  | d :: ds, Q, h, q => by
    show WTs prog w B A cenv (σ₀.set x (.dat d)) [] _
    simp only [WTs, if_true]
    refine WE.mono (h d (by simp)) fun e he => ?_
    subst he
    exact CompP_map g ds _ (fun d' hd' => h d' (by simp [hd'])) q
theorem well_ints {P : Params} {h : Heap} {a : Addr} : ∀ {ns : List Int}, Well P h (.ref a) (ofPy (PyData.list (ns.map PyData.int))) → Rep h [] (.lst (ns.map D.int)) (.ref a) := by
  intro ns hw
  have all : ∀ (ns : List Int) (vs : List Value), WellAll P h vs (ofPys (ns.map PyData.int)) → Reps h [] (ns.map D.int) vs := by
    intro ns
    induction ns with
    | nil => intro vs hv; cases hv; rfl
    | cons n r ih =>
      intro vs hv
      cases hv with
      | cons h1 h2 => cases h1; exact ⟨_, _, rfl, rep_int, ih _ h2⟩
  cases hw with
  | list ho hall => exact rep_lst (by simp) ⟨0, ho⟩ (all ns _ hall)

theorem good_true {l : OpenLaw} {cl : Str → Option Addr} {mean : ExcName → Option Value} {args : List WData} {s₁ s' : Shared} (hg : s₁.gens = #[])
    (hk : ∀ b o, s₁.heap.get? b = some o → s'.heap.get? b = some o) (h1 : s'.gens = s₁.gens) (h2 : s'.os = s₁.os) : GoodWG l.row.claim cl mean args s₁ (.ok (.ret (.bool true))) s' := by
  refine GoodW.toG ⟨.inl ⟨.bool true, .bool true, [], rfl, fun cls => rfl, .bool true, ?_, fun _ => ⟨.nil, fun _ h => by cases h⟩⟩, hk, h2, h1.trans hg⟩
  exact postW_of rfl (w_eq_bool (w_res rfl) w_lit) rfl
end
end Mine

end
section
open PySem PySem.W PySem.Calls PyProof.Rows PySem.SeqAt
namespace Mine
section
variable {prog : Program} {w : World} {B : Shared} {A : Around} {env : Env} {σ : Store}

theorem ns_none_of {K : Frag} {h : Heap} {ns : Addr} {mg : Str → Option Value} {n : Str} (X : K.In h) (G : h.Ns ns mg) (e : nsIn K ns n = some none) : mg n = none := by
  obtain ⟨o, es, ep, ho, hd, _, hf⟩ := G
  unfold nsIn at e
  split at e
  · rename_i c d es' n' sl q
    have := X _ _ q
    rw [ho] at this
    cases this
    cases hd
    split at e
    · cases e
    · rename_i he
      rw [← hf]
      unfold nsFind findBy
      rw [← Array.find?_toList, he]
      rfl
  · cases e

/-- the ground of an opened row -/
theorem base_of {K : Frag} {s : Shared} {mg mb : Str → Option Value} (X : K.In s.heap) (h1 : s.heap.Ns mainGlobals mg) (h2 : s.heap.Ns builtinsNs mb) (h3 : ∀ x : Str, x ≠ "__name__" → mb x = bootBuiltins x) (h4 : s.heap.NoLimit) (e : nsIn K cStatics sharingNotToldKey = some none) : Base s mg mb :=
  ⟨h1, h2, h3, h4, by obtain ⟨mc, h1, h2⟩ := h4; exact ⟨mc, h1, ns_none_of X h1 e⟩⟩

noncomputable def compOkB (env : Env) (scope : Scope) (x : Str) : Bool :=
  scope.names.all (fun y => match y.2 with
    | .free => decide (env.kindOf y.1 = some .cell) && (env.cells.lookup y.1).isSome
    | .cell => false
    | .local => decide (scope.names.lookup y.1 = some .local)
    | _ => true) && decide (scope.kind = .function) && decide (scope.names.lookup x = some .local)
theorem compOk {scope : Scope} {x : Str} (h : compOkB env scope x = true) : CompOk env σ scope x := by
  simp only [compOkB, Bool.and_eq_true, List.all_eq_true, decide_eq_true_eq] at h
  obtain ⟨⟨h1, h2⟩, h3⟩ := h
  refine ⟨fun y hy hf => ?_, fun y hy hc => ?_, h2, fun y hy hf => ?_, h3⟩
  · have := h1 y hy; rw [hf] at this; simpa using this
  · have := h1 y hy; rw [hc] at this; cases this
  · have := h1 y hy; rw [hf] at this; simpa using this
end
end Mine

end
section
open PySem PySem.W PySem.Calls PyProof.Rows PySem.SeqAt
namespace Mine
section
variable {prog : Program} {w : World} {B : Shared} {A : Around} {env : Env} {σ : Store}

theorem WEs_cons {e : Expr} {rest : List Expr} {Q : List D → Prop} (h : WE prog w B A env σ e (fun d => WEs prog w B A env σ rest (fun ds => Q (d :: ds)))) : WEs prog w B A env σ (e :: rest) Q := h
theorem WEs_nil {Q : List D → Prop} (h : Q []) : WEs prog w B A env σ [] Q := h
theorem WP_some {e : Expr} {Q : Option Int → Prop} (h : WE prog w B A env σ e (fun d => ∃ i, d = .int i ∧ Q (some i))) : WP prog w B A env σ (some e) Q := h
theorem WP_none {Q : Option Int → Prop} (h : Q none) : WP prog w B A env σ none Q := h

theorem WE_call_doc {mg mb : Str → Option Value} (G : Base B mg mb) {x : Str} {p pos : Pos} {f : Addr} {o : Obj} {name : Str} {params : Arguments} {body : List Stmt} {scope : Scope} {pm cd doc : Value} {e : Expr} {args : List Expr} {Q : D → Prop}
    (h1 : mg x = some (.ref f)) (h2 : B.heap.get? f = some o) (h3 : o.data = .func (docDef name params body scope pm cd doc)) (h4 : B.heap.CodeRec cd name)
    (hx : env.kindOf x = some .globalImplicit) (h : WEs prog w B A env σ (e :: args) (fun ds => WC prog w B A (.ref f) ds Q))
    (hd : (x == ("__debug__" : Str)) = false := by decide) (hs : noStar (e :: args) = true := by rfl) : WE prog w B A env σ (.Call (.Name x p) (e :: args) [] pos) Q :=
  WE_call_def G ⟨h1, ⟨o, h2, h3⟩, h4⟩ hx h hd hs

/-- by a positive number -/
theorem BO_mod_p {a b : Int} {Q : D → Prop} (hb : 0 < b) (q : Q (.int (a % b))) : BO prog w A .Mod (.int a) (.int b) Q :=
  BO_mod_ii (by omega) (by rw [Int.fmod_eq_emod_of_nonneg _ (by omega)]; exact q)
theorem log2_small {b : Int} (h1 : -(2 ^ 200) < b) (h2 : b < 2 ^ 200) : b.natAbs.log2 < 9000 := by
  rcases Nat.eq_zero_or_pos b.natAbs with h0 | hp
  · rw [h0]; decide
  · have : b.natAbs < 2 ^ 200 := by omega
    exact (Nat.log2_lt (Nat.ne_of_gt hp)).mpr (Nat.lt_trans this (Nat.pow_lt_pow_right (by decide) (by decide)))
theorem BO_div_p {a b : Int} {Q : D → Prop} (hb : 0 < b) (hb' : b < 2 ^ 200) (q : Q (.int (a / b))) : BO prog w A .FloorDiv (.int a) (.int b) Q :=
  BO_floordiv_ii (by omega) (log2_small (by omega) hb') (by rw [Int.fdiv_eq_ediv_of_nonneg _ (by omega)]; exact q)

theorem mulL {a b : Int} (h1 : -(2 ^ 64) < a) (h2 : a < 2 ^ 64) : IntMulOk a b := IntMulOk.of_left (intBits_le_64 h1 h2)
theorem mulR {a b : Int} (h1 : -(2 ^ 64) < b) (h2 : b < 2 ^ 64) : IntMulOk a b := IntMulOk.of_right (intBits_le_64 h1 h2)

theorem cut_map {ns : List Int} {lo hi : Option Int} : cut (ns.map D.int) lo hi = (cut ns lo hi).map D.int := by
  simp [cut, List.map_drop, List.map_take]
theorem cut_length_le {α : Type} (xs : List α) (lo hi : Option Int) : (cut xs lo hi).length ≤ xs.length := by
  simp only [cut, List.length_take, List.length_drop]; omega

theorem rangeD_get {a b c : Int} {i : Nat} {d : D} (h : (rangeD a b c)[i]? = some d) : d = .int (a + i * c) ∧ i < (Builtin.Range.rangeSize a b c).toNat := by
  unfold rangeD at h
  rw [List.getElem?_map] at h
  cases hi : (List.range (Builtin.Range.rangeSize a b c).toNat)[i]? with
  | none => rw [hi] at h; cases h
  | some j =>
    rw [hi] at h
    have hlt : i < (Builtin.Range.rangeSize a b c).toNat := by
      rcases Nat.lt_or_ge i (Builtin.Range.rangeSize a b c).toNat with q | q
      · exact q
      · rw [List.getElem?_eq_none (by simpa using q)] at hi; cases hi
    rw [List.getElem?_range hlt] at hi
    cases hi
    cases h
    exact ⟨rfl, hlt⟩
theorem setAll_noOwn {σ : Store} (h : NoOwn σ) : ∀ (xs : List Str) (ds : List D), NoOwn (setAll σ xs ds) := by
  intro xs
  induction xs generalizing σ with
  | nil => intro ds; cases ds <;> exact h
  | cons x xs ih => intro ds; cases ds with
    | nil => exact h
    | cons d ds => exact ih (h.set x d) ds
theorem own_params {xs : List Str} {ds : List D} (x : Str) : OwnOnly x (paramsAre xs ds) := (setAll_noOwn (fun _ _ e => by cases e) xs ds).only x

theorem mod_bd (a : Int) {top : Int} (ht : 1 ≤ top := by omega) : 0 ≤ a % (top + 1) ∧ a % (top + 1) ≤ top :=
  ⟨Int.emod_nonneg _ (by omega), by have := Int.emod_lt_of_pos a (b := top + 1) (by omega); omega⟩
theorem Rm.less {j k : Nat} (r : Rm k A) (h : j ≤ k := by omega) : Rm j A := ⟨r.handled, by have := r.depth; omega, by have := r.units; omega⟩
theorem small1023 {a : Int} (h1 : -(2 ^ 200) < a) (h2 : a < 2 ^ 200) : a.natAbs < 2 ^ 1023 :=
  Nat.lt_of_lt_of_le (m := 2 ^ 200) (by omega) (Nat.pow_le_pow_right (by decide) (by decide))
theorem BO_div_s {a b : Int} {Q : D → Prop} (hA : A.handled = none) (h1 : -(2 ^ 200) < a) (h2 : a < 2 ^ 200) (hb : b ≠ 0) (q : Q (.flt (divI a b))) : BO prog w A .Div (.int a) (.int b) Q := BO_div_ii hA (small1023 h1 h2) hb q
end
end Mine

end
section
open PySem PySem.W PySem.Calls PyProof.Rows PySem.SeqAt
namespace Mine
section
variable {prog : Program} {w : World} {B : Shared} {A : Around} {env : Env} {σ : Store}

end
end Mine

end
section
open PySem PySem.W PySem.Calls PyProof.Rows PySem.SeqAt
namespace Mine
section
variable {prog : Program} {w : World} {B : Shared} {A : Around} {env : Env} {σ : Store}

theorem Kp.walked {s : Shared} {h' : Heap} {tk : Nat} (hk : ∀ c o, s.heap.get? c = some o → h'.get? c = some o) (ht : s.toks ≤ tk) : Kp s { s with heap := h', toks := tk } := ⟨⟨h', tk, rfl, ht⟩, hk⟩

theorem WC_max_ii {a b : Int} {Q : D → Prop} (hA : A.handled = none) (q : Q (.int (max a b))) : WC prog w B A (.builtin "max") [.int a, .int b] Q := fun X s vals g r => by
  obtain ⟨v, r₁, rfl, h1, v', r₂, rfl, h2, h3⟩ := r
  cases h3
  obtain ⟨t, rfl⟩ := h1.int_inv; obtain ⟨u, rfl⟩ := h2.int_inv
  refine wpAny_with_toks (n := s.toks) (Nat.le_refl _) (max_two_ints hA fun h' tk hk ht => ⟨Kp.walked hk ht, .int (max a b), ?_, q⟩)
  by_cases h : b > a
  · rw [if_pos h, show max a b = b by omega]; exact rep_int
  · rw [if_neg h, show max a b = a by omega]; exact rep_int
theorem WC_min_ii {a b : Int} {Q : D → Prop} (hA : A.handled = none) (q : Q (.int (min a b))) : WC prog w B A (.builtin "min") [.int a, .int b] Q := fun X s vals g r => by
  obtain ⟨v, r₁, rfl, h1, v', r₂, rfl, h2, h3⟩ := r
  cases h3
  obtain ⟨t, rfl⟩ := h1.int_inv; obtain ⟨u, rfl⟩ := h2.int_inv
  refine wpAny_with_toks (n := s.toks) (Nat.le_refl _) (min_two_ints hA fun h' tk hk ht => ⟨Kp.walked hk ht, .int (min a b), ?_, q⟩)
  by_cases h : b < a
  · rw [if_pos h, show min a b = b by omega]; exact rep_int
  · rw [if_neg h, show min a b = a by omega]; exact rep_int

/-- the greater of two floats, the first where neither is -/
noncomputable def mx (a b : UInt64) : UInt64 := if (Float64.cmp a b == some .lt) = true then b else a
/-- the lesser of two floats, the first where neither is -/
noncomputable def mn (a b : UInt64) : UInt64 := if (Float64.cmp b a == some .lt) = true then b else a

theorem WC_max_fff {a b c : UInt64} {Q : D → Prop} (hA : A.handled = none) (q : Q (.flt (mx (mx a b) c))) : WC prog w B A (.builtin "max") [.flt a, .flt b, .flt c] Q := fun X s vals g r => by
  obtain ⟨v, r₁, rfl, h1, v', r₂, rfl, h2, v'', r₃, rfl, h3, h4⟩ := r
  cases h4
  obtain ⟨t, rfl, ht⟩ := h1.flt_inv; obtain ⟨u, rfl, hu⟩ := h2.flt_inv; obtain ⟨x, rfl, hx⟩ := h3.flt_inv
  have hT : (s.heap.push { cls := .type "tuple", data := .seq #[.float a t, .float b u, .float c x] }).IsTuple s.heap.objs.size #[.float a t, .float b u, .float c x] := ⟨_, Heap.get?_push_size _ rfl, rfl, 0, rfl⟩
  refine wpAny_with_toks (n := s.toks) (Nat.le_refl _) (call_max_three (wpAny_pyIter_tuple hT ?_))
  have hsz : (s.heap.push { cls := .type "tuple", data := .seq #[.float a t, .float b u, .float c x] }).objs.size = s.heap.objs.size + 1 := Heap.size_push ..
  refine ⟨_, [_, s.heap.objs.size], [_], _, _, _, _, rfl, Walks.tuple (A := A.in1) hA _ s.heap.objs.size (by rw [hsz]; exact Nat.ne_of_lt (Nat.lt_succ_self _)) #[.float a t, .float b u, .float c x],
    ⟨⟨_, Heap.get?_push_size _ rfl, rfl, rfl⟩, hT.push _⟩, fun d hd => ?_, by simp, PySem.Flt.cmpOf_gt #[.float a t, .float b u, .float c x] (fun v hv => ?_), fun v h' tk hP hk htk => ?_⟩
  · show d < ((s.heap.push _).push _).objs.size
    rw [Heap.size_push, hsz]
    simp only [List.mem_cons, List.not_mem_nil, or_false] at hd
    rcases hd with rfl | rfl
    · rw [hsz]; exact Nat.lt_succ_self _
    · exact Nat.lt_succ_of_lt (Nat.lt_succ_self _)
  · simp only [List.mem_toArray, List.mem_cons, List.not_mem_nil, or_false] at hv
    rcases hv with rfl | rfl | rfl <;> exact .float _ _
  · refine ⟨Kp.walked (fun d o e => hk d o (fun hm => ?_) (Heap.get?_push_of_some _ (Heap.get?_push_of_some _ e))) htk, _, ?_, q⟩
    · simp only [List.mem_cons, List.not_mem_nil, or_false] at hm
      have := Heap.lt_size e; rw [hm, hsz] at this; exact Nat.lt_irrefl _ (Nat.lt_of_succ_lt this)
    · have e1 : ∀ p q : UInt64, ∀ t u : Tok, PySem.Flt.ltV (.float p t) (.float q u) = (Float64.cmp p q == some .lt) := fun _ _ _ _ => rfl
      unfold mx
      cases hc : (Float64.cmp a b == some .lt) <;> cases hd : (Float64.cmp a c == some .lt) <;> cases he : (Float64.cmp b c == some .lt) <;> simp [argBest, e1, hc, hd, he] at hP ⊢ <;> subst hP <;> exact ⟨_, rfl, by assumption⟩

theorem WC_min_fff {a b c : UInt64} {Q : D → Prop} (hA : A.handled = none) (q : Q (.flt (mn (mn a b) c))) : WC prog w B A (.builtin "min") [.flt a, .flt b, .flt c] Q := fun X s vals g r => by
  obtain ⟨v, r₁, rfl, h1, v', r₂, rfl, h2, v'', r₃, rfl, h3, h4⟩ := r
  cases h4
  obtain ⟨t, rfl, ht⟩ := h1.flt_inv; obtain ⟨u, rfl, hu⟩ := h2.flt_inv; obtain ⟨x, rfl, hx⟩ := h3.flt_inv
  have hT : (s.heap.push { cls := .type "tuple", data := .seq #[.float a t, .float b u, .float c x] }).IsTuple s.heap.objs.size #[.float a t, .float b u, .float c x] := ⟨_, Heap.get?_push_size _ rfl, rfl, 0, rfl⟩
  refine wpAny_with_toks (n := s.toks) (Nat.le_refl _) (call_min_three (wpAny_pyIter_tuple hT ?_))
  have hsz : (s.heap.push { cls := .type "tuple", data := .seq #[.float a t, .float b u, .float c x] }).objs.size = s.heap.objs.size + 1 := Heap.size_push ..
  refine ⟨_, [_, s.heap.objs.size], [_], _, _, _, _, rfl, Walks.tuple (A := A.in1) hA _ s.heap.objs.size (by rw [hsz]; exact Nat.ne_of_lt (Nat.lt_succ_self _)) #[.float a t, .float b u, .float c x],
    ⟨⟨_, Heap.get?_push_size _ rfl, rfl, rfl⟩, hT.push _⟩, fun d hd => ?_, by simp, PySem.Flt.cmpOf_lt #[.float a t, .float b u, .float c x] (fun v hv => ?_), fun v h' tk hP hk htk => ?_⟩
  · show d < ((s.heap.push _).push _).objs.size
    rw [Heap.size_push, hsz]
    simp only [List.mem_cons, List.not_mem_nil, or_false] at hd
    rcases hd with rfl | rfl
    · rw [hsz]; exact Nat.lt_succ_self _
    · exact Nat.lt_succ_of_lt (Nat.lt_succ_self _)
  · simp only [List.mem_toArray, List.mem_cons, List.not_mem_nil, or_false] at hv
    rcases hv with rfl | rfl | rfl <;> exact .float _ _
  · refine ⟨Kp.walked (fun d o e => hk d o (fun hm => ?_) (Heap.get?_push_of_some _ (Heap.get?_push_of_some _ e))) htk, _, ?_, q⟩
    · simp only [List.mem_cons, List.not_mem_nil, or_false] at hm
      have := Heap.lt_size e; rw [hm, hsz] at this; exact Nat.lt_irrefl _ (Nat.lt_of_succ_lt this)
    · have e1 : ∀ p q : UInt64, ∀ t u : Tok, PySem.Flt.ltV (.float p t) (.float q u) = (Float64.cmp p q == some .lt) := fun _ _ _ _ => rfl
      unfold mn
      cases hc : (Float64.cmp b a == some .lt) <;> cases hd : (Float64.cmp c a == some .lt) <;> cases he : (Float64.cmp c b == some .lt) <;> simp [argBest, e1, hc, hd, he] at hP ⊢ <;> subst hP <;> exact ⟨_, rfl, by assumption⟩

end
end Mine

end
section
open PySem PySem.W PySem.Calls PyProof.Rows PySem.SeqAt
namespace Mine
section
variable {prog : Program} {w : World} {B : Shared} {A : Around} {env : Env} {σ : Store}

theorem bits2 : Builtin.Int.intBits 2 = 2 := by decide
theorem BO_pow2 {b : Int} {Q : D → Prop} (h0 : 0 ≤ b) (h1 : b ≤ 2000) (q : Q (.int (2 ^ b.toNat))) : BO prog w A .Pow (.int 2) (.int b) Q :=
  BO_pow_ii h0 (by rw [bits2]; omega) q
end
end Mine

end
section
open PySem PySem.W PySem.Calls PyProof.Rows PySem.SeqAt
namespace Mine
section
variable {prog : Program} {w : World} {B : Shared} {A : Around} {env : Env} {σ : Store}

theorem BO_pow_eq {a b c : Int} {Q : D → Prop} (e : a ^ b.toNat = c) (hb : 0 ≤ b) (hsz : (Builtin.Int.intBits a : Int) * b ≤ 2 ^ 27) (q : Q (.int c)) : BO prog w A .Pow (.int a) (.int b) Q :=
  BO_pow_ii hb hsz (by rw [e]; exact q)
theorem pow40 : (2 : Int) ^ (40 : Int).toNat = 1099511627776 := by decide
theorem pow52 : (2 : Int) ^ (52 : Int).toNat = 4503599627370496 := by decide
theorem pow53 : (2 : Int) ^ (53 : Int).toNat = 9007199254740992 := by decide

end
end Mine

end
section
open PySem PySem.Float64
namespace Mine

/-- the scale of the smallest float -/
noncomputable def S : Nat := 2 ^ 1074
theorem S_pos : (0 : Rat) < (S : Rat) := Rat.natCast_pos.mpr (Nat.two_pow_pos _)
theorem S_ne : (S : Rat) ≠ 0 := fun h => by have := S_pos; rw [h] at this; exact Rat.lt_irrefl this
/-- a float's value -/
noncomputable def fv (x : UInt64) : Rat := (val x : Rat) / (S : Rat)
theorem fv_S (x : UInt64) : fv x * S = (val x : Rat) := Rat.div_mul_cancel S_ne
noncomputable abbrev FF (x : UInt64) : Prop := Float64.isFinite x = true
theorem FF.dec {x : UInt64} (h : FF x) : ∃ a m e, decode x = .fin a m e := by
  unfold FF isFinite at h
  cases hd : decode x with
  | fin a m e => exact ⟨a, m, e, rfl⟩
  | _ => rw [hd] at h; cases h
theorem FF.of {x : UInt64} {a : Bool} {m : Nat} {e : Int} (h : decode x = .fin a m e) : FF x := by unfold FF isFinite; rw [h]

/-- what a float can say (but for the ceiling) -/
noncomputable def Rp (f : Rat) : Prop := ∃ (m : Int) (k : Nat), m.natAbs ≤ 2 ^ 53 ∧ f * S = m * (2 ^ k : Nat)

theorem V_repr : ∀ (k m : Nat), m ≤ 2 ^ 53 → ∃ t, V t = m * 2 ^ k
  | 0, m, h => ⟨_, V_at (k := 0) h (.inr rfl)⟩
  | k + 1, m, h => by
    by_cases h2 : 2 ^ 52 ≤ m
    · exact ⟨_, V_at h (.inl h2)⟩
    · obtain ⟨t, ht⟩ := V_repr k (2 * m) (by omega)
      exact ⟨t, by rw [ht, Nat.pow_succ, Nat.mul_comm 2 m, Nat.mul_assoc, Nat.mul_comm 2]⟩

theorem sgn_cast (a : Bool) (m : Nat) : ((sgn a m : Int) : Rat) = if a then -(m : Rat) else m := by
  cases a
  · rfl
  · show ((-(m : Int) : Int) : Rat) = -(m : Rat)
    rw [Rat.intCast_neg]; rfl

theorem Rp_fv {x : UInt64} (h : FF x) : Rp (fv x) := by
  obtain ⟨a, m, e, hd⟩ := h.dec
  refine ⟨sgn a m, (e + 1074).toNat, ?_, ?_⟩
  · rw [sgn_natAbs]; exact Nat.le_of_lt (decode_le hd).1
  · rw [fv_S, val_eq hd, sgn_mul]
    rw [Rat.intCast_mul]; rfl

/-- r is what q is rounded to -/
noncomputable def Rd (r : UInt64) (q : Rat) : Prop := ∃ (neg : Bool) (W D : Nat), 0 < D ∧ Right r neg W D ∧ q * ((D : Rat) * S) = ((sgn neg W : Int) : Rat)

theorem natAbs_sgn (i : Int) : sgn (decide (i < 0)) i.natAbs = i := by unfold sgn; split <;> rename_i h <;> simp at h <;> omega

theorem zero_right (neg : Bool) : Right (zero neg) neg 0 1 := by
  refine ⟨0, rfl, by unfold infMag; omega, ⟨fun h => by unfold infMag at h; omega, fun h => ?_⟩, fun _ t' => ⟨by rw [V_zero]; simp [Float64.dist], fun h1 h2 => rfl⟩⟩
  have : 0 < (2 ^ 54 - 1) * 2 ^ 2045 := Nat.mul_pos (by decide) (Nat.two_pow_pos _)
  omega

theorem Rd_sum {r : UInt64} {i : Int} {neg : Bool} (h0 : i = 0 → r = zero neg) (h1 : i ≠ 0 → Right r (decide (i < 0)) i.natAbs 1) : Rd r ((i : Rat) / S) := by
  by_cases h : i = 0
  · refine ⟨neg, 0, 1, by decide, by rw [h0 h]; exact zero_right neg, ?_⟩
    subst h
    have : sgn neg 0 = 0 := by unfold sgn; cases neg <;> rfl
    rw [this]
    simp [Rat.div_def]
  · refine ⟨_, _, 1, by decide, h1 h, ?_⟩
    rw [natAbs_sgn]
    show (i : Rat) / S * (((1 : Nat) : Rat) * S) = i
    rw [show ((1 : Nat) : Rat) = 1 from rfl, Rat.one_mul, Rat.div_mul_cancel S_ne]

theorem Rd_add {x y : UInt64} (hx : FF x) (hy : FF y) : Rd (Float64.add x y) (fv x + fv y) := by
  obtain ⟨a, m, e, h1⟩ := hx.dec; obtain ⟨b, k, f, h2⟩ := hy.dec
  have h := add_right h1 h2
  have := Rd_sum h.1 h.2
  rwa [show ((val x + val y : Int) : Rat) / S = fv x + fv y by unfold fv; rw [Rat.intCast_add]; have := S_ne; grind] at this
theorem Rd_sub {x y : UInt64} (hx : FF x) (hy : FF y) : Rd (Float64.sub x y) (fv x - fv y) := by
  obtain ⟨a, m, e, h1⟩ := hx.dec; obtain ⟨b, k, f, h2⟩ := hy.dec
  have h := sub_right h1 h2
  have := Rd_sum h.1 h.2
  rwa [show ((val x - val y : Int) : Rat) / S = fv x - fv y by unfold fv; rw [Rat.intCast_sub]; have := S_ne; grind] at this

theorem sgn_xor (a b : Bool) (m k : Nat) : sgn (a != b) (m * k) = sgn a m * sgn b k := by
  unfold sgn; cases a <;> cases b <;> simp <;> grind
theorem val_sgn {x : UInt64} {a : Bool} {m : Nat} {e : Int} (h : decode x = .fin a m e) : sgn a (val x).natAbs = val x := by rw [val_natAbs h, val_eq h]

theorem Rd_mul {x y : UInt64} (hx : FF x) (hy : FF y) : Rd (Float64.mul x y) (fv x * fv y) := by
  obtain ⟨a, m, e, h1⟩ := hx.dec; obtain ⟨b, k, f, h2⟩ := hy.dec
  refine ⟨_, _, _, Nat.two_pow_pos _, mul_right h1 h2, ?_⟩
  rw [sgn_xor, val_sgn h1, val_sgn h2, Rat.intCast_mul, ← fv_S x, ← fv_S y]
  show fv x * fv y * ((S : Rat) * S) = _
  grind
theorem Rd_div {x y : UInt64} (hx : FF x) (hy : FF y) (h0 : fv y ≠ 0) : Rd (Float64.div x y) (fv x / fv y) := by
  obtain ⟨a, m, e, h1⟩ := hx.dec; obtain ⟨b, k, f, h2⟩ := hy.dec
  have hv : val y ≠ 0 := fun h => h0 (by unfold fv; rw [h]; simp [Rat.div_def])
  have hk : k ≠ 0 := fun h => hv (by rw [val_eq h2, h]; unfold sgn; simp)
  refine ⟨_, _, _, by omega, div_right h1 h2 hk, ?_⟩
  have ey : (((val y).natAbs : Nat) : Rat) = if b then -(fv y * S) else fv y * S := by
    have := val_sgn h2
    have h3 := sgn_cast b (val y).natAbs
    rw [this, ← fv_S y] at h3
    cases b <;> simp at h3 ⊢ <;> grind
  have ex : (((val x).natAbs : Nat) : Rat) = if a then -(fv x * S) else fv x * S := by
    have := val_sgn h1
    have h3 := sgn_cast a (val x).natAbs
    rw [this, ← fv_S x] at h3
    cases a <;> simp at h3 ⊢ <;> grind
  rw [sgn_cast, Rat.natCast_mul, ey, ex]
  rw [show ((2 ^ 1074 : Nat) : Rat) = S from rfl]
  have : fv x / fv y * fv y = fv x := Rat.div_mul_cancel h0
  cases a <;> cases b <;> simp <;> grind

theorem Rd_frac {a b : Int} (hb : b ≠ 0) : Rd (divI a b) ((a : Rat) / b) := by
  refine ⟨_, a.natAbs * 2 ^ 1074, b.natAbs, by omega, ofFrac_right (by omega) rfl (by omega), ?_⟩
  have hb' : (b : Rat) ≠ 0 := fun h => hb (Rat.intCast_eq_zero_iff.mp h)
  have h1 : ((b.natAbs : Nat) : Rat) = if b < 0 then -(b : Rat) else b := by
    rw [← Rat.intCast_natCast]
    split
    · rw [show ((b.natAbs : Nat) : Int) = -b by omega, Rat.intCast_neg]
    · rw [show ((b.natAbs : Nat) : Int) = b by omega]
  have h2 : ((a.natAbs : Nat) : Rat) = if a < 0 then -(a : Rat) else a := by
    rw [← Rat.intCast_natCast]
    split
    · rw [show ((a.natAbs : Nat) : Int) = -a by omega, Rat.intCast_neg]
    · rw [show ((a.natAbs : Nat) : Int) = a by omega]
  rw [sgn_cast, Rat.natCast_mul, h1, h2, show ((2 ^ 1074 : Nat) : Rat) = S from rfl]
  have : (a : Rat) / b * b = a := Rat.div_mul_cancel hb'
  by_cases ha : a < 0 <;> by_cases hb : b < 0 <;> simp [ha, hb] <;> grind
theorem Rd_int (a : Int) : Rd (Float64.ofInt a) (a : Rat) := by
  refine ⟨_, _, 1, by decide, ofInt_right a, ?_⟩
  rw [show sgn (decide (a < 0)) (a.natAbs * 2 ^ 1074) = a * (2 ^ 1074 : Nat) by rw [sgn_mul, natAbs_sgn]]
  rw [Rat.intCast_mul]
  show (a : Rat) * (((1 : Nat) : Rat) * S) = _
  rw [show ((1 : Nat) : Rat) = 1 from rfl, Rat.one_mul]
  rfl
end Mine

end
section
open PySem PySem.Float64
namespace Mine

theorem cast_le {a b : Nat} (h : a ≤ b) : (a : Rat) ≤ b := Rat.natCast_le_natCast.mpr h
theorem icast_le {a b : Int} (h : a ≤ b) : (a : Rat) ≤ b := Rat.intCast_le_intCast.mpr h
theorem pow_cast (n : Nat) : ((2 ^ n : Nat) : Rat) = (2 : Rat) ^ n := by rw [Rat.natCast_pow]; rfl

theorem not_fin_inf (neg : Bool) : Float64.isFinite (pack neg infMag) = false := by
  cases neg <;> decide +kernel

theorem Rd.fin {r : UInt64} {q : Rat} (h : Rd r q) (h1 : -(2 : Rat) ^ 1000 ≤ q) (h2 : q ≤ (2 : Rat) ^ 1000) : FF r := by
  obtain ⟨neg, W, D, hD, ⟨t, e, hle, hinf, hn⟩, hq⟩ := h
  have hu : (0 : Rat) < (D : Rat) * S := Rat.mul_pos (Rat.natCast_pos.mpr hD) S_pos
  have hW : (W : Rat) ≤ (2 : Rat) ^ 1000 * ((D : Rat) * S) := by
    rw [sgn_cast] at hq
    have a1 := Rat.mul_le_mul_of_nonneg_right h2 (Rat.le_of_lt hu)
    have a2 := Rat.mul_le_mul_of_nonneg_right h1 (Rat.le_of_lt hu)
    cases neg <;> simp at hq <;> grind
  have hWn : W ≤ 2 ^ 1000 * (D * 2 ^ 1074) := by
    apply Rat.natCast_le_natCast.mp
    rw [Rat.natCast_mul, Rat.natCast_mul, pow_cast 1000]
    exact hW
  have ht : t ≠ infMag := fun z => by
    have h3 := hinf.mp z
    have e1 : 2 ^ 1000 * (D * 2 ^ 1074) = D * 2 ^ 2074 := by rw [Nat.mul_left_comm, ← Nat.pow_add]
    have e2 : (2 ^ 54 - 1) * 2 ^ 2045 = (2 ^ 54 - 1) * 2 ^ 2045 := rfl
    have e3 : (2 : Nat) ^ 2074 = 2 ^ 29 * 2 ^ 2045 := by rw [← Nat.pow_add]
    rw [e1, e3] at hWn
    have h4 : D * ((2 ^ 54 - 1) * 2 ^ 2045) ≤ 2 * (D * (2 ^ 29 * 2 ^ 2045)) := Nat.le_trans h3 (Nat.mul_le_mul_left 2 hWn)
    have hp : 0 < D * 2 ^ 2045 := Nat.mul_pos hD (Nat.two_pow_pos _)
    have e4 : D * ((2 ^ 54 - 1) * 2 ^ 2045) = (2 ^ 54 - 1) * (D * 2 ^ 2045) := Nat.mul_left_comm ..
    have e5 : D * (2 ^ 29 * 2 ^ 2045) = 2 ^ 29 * (D * 2 ^ 2045) := Nat.mul_left_comm ..
    rw [e4, e5] at h4
    generalize D * 2 ^ 2045 = z at *
    omega
  obtain ⟨m, e', hd, _⟩ := decode_pack neg (t := t) (by omega)
  rw [e]; exact FF.of hd

theorem dist_cases {x y z : Nat} (h : Float64.dist x y ≤ Float64.dist x z) : ((x : Rat) - y ≤ x - z ∧ (y : Rat) - x ≤ x - z ∧ (z : Rat) ≤ x) ∨ ((x : Rat) - y ≤ z - x ∧ (y : Rat) - x ≤ z - x ∧ (x : Rat) ≤ z) := by
  unfold Float64.dist at h
  have key : ((x : Int) - y ≤ x - z ∧ (y : Int) - x ≤ x - z ∧ (z : Int) ≤ x) ∨ ((x : Int) - y ≤ z - x ∧ (y : Int) - x ≤ z - x ∧ (x : Int) ≤ z) := by omega
  rcases key with ⟨h1, h2, h3⟩ | ⟨h1, h2, h3⟩
  · left
    have h1 := icast_le h1; have h2 := icast_le h2; have h3 := icast_le h3
    simp only [Rat.intCast_sub, Rat.intCast_natCast] at h1 h2 h3
    exact ⟨h1, h2, h3⟩
  · right
    have h1 := icast_le h1; have h2 := icast_le h2; have h3 := icast_le h3
    simp only [Rat.intCast_sub, Rat.intCast_natCast] at h1 h2 h3
    exact ⟨h1, h2, h3⟩

/-- what a finite rounding is -/
theorem Rd.parts {r : UInt64} {q : Rat} (h : Rd r q) (hf : FF r) : ∃ (neg : Bool) (W D t : Nat), 0 < D ∧ (0 : Rat) < (D : Rat) * S ∧ q * ((D : Rat) * S) = (if neg then -(W : Rat) else W) ∧ fv r * ((D : Rat) * S) = (if neg then -((D * V t : Nat) : Rat) else ((D * V t : Nat) : Rat)) ∧
    ∀ t', Float64.dist W (D * V t) ≤ Float64.dist W (D * V t') ∧ (V t' ≠ V t → Float64.dist W (D * V t) = Float64.dist W (D * V t') → t % 2 = 0) := by
  obtain ⟨neg, W, D, hD, ⟨t, e, hle, hinf, hn⟩, hq⟩ := h
  have ht : t < infMag := by
    rcases Nat.lt_or_ge t infMag with z | z
    · exact z
    · have : t = infMag := by omega
      subst this
      rw [e] at hf
      have := not_fin_inf neg
      unfold FF at hf
      rw [hf] at this; cases this
  refine ⟨neg, W, D, t, hD, Rat.mul_pos (Rat.natCast_pos.mpr hD) S_pos, by rw [hq, sgn_cast], ?_, hn ht⟩
  have hv : fv r * S = if neg then -(V t : Rat) else V t := by rw [fv_S, e, val_pack neg ht, sgn_cast]
  rw [Rat.natCast_mul]
  cases neg <;> simp at hv ⊢ <;> grind

theorem Rd.near {r : UInt64} {q : Rat} (h : Rd r q) (hf : FF r) {f d : Rat} (hr : Rp f) (h1 : f - q ≤ d) (h2 : q - f ≤ d) : fv r - q ≤ d ∧ q - fv r ≤ d := by
  obtain ⟨neg, W, D, t, hD, hu, hq, hv, hn⟩ := h.parts hf
  obtain ⟨m, k, hm, hf'⟩ := hr
  obtain ⟨t', ht'⟩ := V_repr k m.natAbs hm
  have hd := dist_cases (hn t').1
  have hfu : f * ((D : Rat) * S) = if m < 0 then -((D * V t' : Nat) : Rat) else ((D * V t' : Nat) : Rat) := by
    rw [ht', Rat.natCast_mul, Rat.natCast_mul]
    have e : ((m.natAbs : Nat) : Rat) = if m < 0 then -(m : Rat) else m := by
      rw [← Rat.intCast_natCast]
      split
      · rw [show ((m.natAbs : Nat) : Int) = -m by omega, Rat.intCast_neg]
      · rw [show ((m.natAbs : Nat) : Int) = m by omega]
    rw [e]
    split <;> grind
  have a1 := Rat.mul_le_mul_of_nonneg_right h1 (Rat.le_of_lt hu)
  have a2 := Rat.mul_le_mul_of_nonneg_right h2 (Rat.le_of_lt hu)
  have p1 : (0 : Rat) ≤ W := Rat.natCast_nonneg
  have p2 : (0 : Rat) ≤ ((D * V t' : Nat) : Rat) := Rat.natCast_nonneg
  generalize ((D * V t' : Nat) : Rat) = z at *
  generalize ((D * V t : Nat) : Rat) = y at *
  generalize (W : Rat) = x at *
  have key : (fv r - q) * ((D : Rat) * S) ≤ d * ((D : Rat) * S) ∧ (q - fv r) * ((D : Rat) * S) ≤ d * ((D : Rat) * S) := by
    generalize (D : Rat) * S = u at *
    cases neg <;> by_cases hm : m < 0 <;> simp [hm] at hq hv hfu <;> rcases hd with ⟨h3, h4, h5⟩ | ⟨h3, h4, h5⟩ <;> constructor <;> grind
  exact ⟨Rat.le_of_mul_le_mul_right key.1 hu, Rat.le_of_mul_le_mul_right key.2 hu⟩

theorem Rd.exact {r : UInt64} {q : Rat} (h : Rd r q) (hf : FF r) (hq : Rp q) : fv r = q := by
  have := h.near hf (d := 0) hq (by grind) (by grind)
  grind
theorem Rd.le {r : UInt64} {q f : Rat} (h : Rd r q) (hf : FF r) (hr : Rp f) (hq : q ≤ f) : fv r ≤ f := by
  have := h.near hf (d := f - q) hr (by grind) (by grind)
  grind
theorem Rd.ge {r : UInt64} {q f : Rat} (h : Rd r q) (hf : FF r) (hr : Rp f) (hq : f ≤ q) : f ≤ fv r := by
  have := h.near hf (d := q - f) hr (by grind) (by grind)
  grind

/-- an error that is known by a power of two above the value -/
theorem Rd.err {r : UInt64} {q E : Rat} {n : Nat} (h : Rd r q) (hE : E * S = (2 ^ (n + 54) : Nat)) (hn : n + 54 ≤ 2074) (h1 : -E ≤ q) (h2 : q ≤ E) : FF r ∧ fv r - q ≤ E / 2 ^ 54 ∧ q - fv r ≤ E / 2 ^ 54 := by
  have hf : FF r := by
    have : E ≤ (2 : Rat) ^ 1000 := by
      apply Rat.le_of_mul_le_mul_right (c := (S : Rat)) _ S_pos
      rw [hE, ← pow_cast 1000, ← Rat.natCast_mul]
      refine cast_le (Nat.le_trans (Nat.pow_le_pow_right (n := 2) (by decide) hn) (Nat.le_of_eq ?_))
      unfold S
      rw [← Nat.pow_add]
    exact h.fin (by grind) (by grind)
  refine ⟨hf, ?_⟩
  -- the grid
  have hE' : E * S = (2 : Rat) ^ 53 * ((2 ^ (n + 1) : Nat) : Rat) := by
    rw [hE, ← pow_cast, ← Rat.natCast_mul, ← Nat.pow_add]; congr 2; omega
  have gp : (0 : Rat) < ((2 ^ (n + 1) : Nat) : Rat) := Rat.natCast_pos.mpr (Nat.two_pow_pos _)
  generalize hg : ((2 ^ (n + 1) : Nat) : Rat) = g at *
  have hgne : g ≠ 0 := by grind
  have m1 := Rat.floor_le (q * S / g + 1 / 2)
  have m2 := Rat.lt_floor_add_one (q * S / g + 1 / 2)
  generalize hm : (q * S / g + 1 / 2).floor = m at *
  rw [Rat.intCast_add, Rat.intCast_one] at m2
  have eq : q * S / g * g = q * S := Rat.div_mul_cancel hgne
  have b1 := Rat.mul_le_mul_of_nonneg_right h1 (Rat.le_of_lt S_pos)
  have b2 := Rat.mul_le_mul_of_nonneg_right h2 (Rat.le_of_lt S_pos)
  have c1 : q * S / g ≤ 2 ^ 53 := Rat.le_of_mul_le_mul_right (c := g) (by rw [eq]; grind) gp
  have c2 : -2 ^ 53 ≤ q * S / g := Rat.le_of_mul_le_mul_right (c := g) (by rw [eq]; grind) gp
  have hmb : m.natAbs ≤ 2 ^ 53 := by
    have d1 : (m : Rat) < ((2 ^ 53 + 1 : Int) : Rat) := by
      rw [show ((2 ^ 53 + 1 : Int) : Rat) = 2 ^ 53 + 1 from by decide +kernel]; grind
    have d2 : ((-2 ^ 53 - 1 : Int) : Rat) < (m : Rat) := by
      rw [show ((-2 ^ 53 - 1 : Int) : Rat) = -2 ^ 53 - 1 from by decide +kernel]; grind
    have d1 := Rat.intCast_lt_intCast.mp d1
    have d2 := Rat.intCast_lt_intCast.mp d2
    omega
  have hSne := S_ne
  have hr : Rp (m * g / S) := ⟨m, n + 1, hmb, by rw [Rat.div_mul_cancel hSne, hg]⟩
  have ef : m * g / S * S = m * g := Rat.div_mul_cancel hSne
  have x1 := Rat.mul_le_mul_of_nonneg_right m1 (Rat.le_of_lt gp)
  have x2 := Rat.mul_le_mul_of_nonneg_right (Rat.le_of_lt m2) (Rat.le_of_lt gp)
  have hE54 : E / 2 ^ 54 * S = g / 2 := by
    have : E / 2 ^ 54 * S = E * S / 2 ^ 54 := by grind
    rw [this, hE']; grind
  refine h.near hf hr ?_ ?_
  · apply Rat.le_of_mul_le_mul_right (c := (S : Rat)) _ S_pos
    rw [hE54]; grind
  · apply Rat.le_of_mul_le_mul_right (c := (S : Rat)) _ S_pos
    rw [hE54]; grind
end Mine

end
section
open PySem PySem.Float64
namespace Mine

theorem E_pow {a : Nat} (ha : a ≤ 1000) : (2 : Rat) ^ a * S = (2 ^ ((a + 1020) + 54) : Nat) := by
  rw [← pow_cast, ← Rat.natCast_mul]
  unfold S
  rw [← Nat.pow_add]
theorem pow_ne (a : Nat) : (2 : Rat) ^ a ≠ 0 := by
  have := Rat.pow_pos (a := 2) (n := a) (by decide)
  grind
theorem E_inv {a : Nat} (ha : a ≤ 1000) : (1 / 2 ^ a : Rat) * S = (2 ^ ((1020 - a) + 54) : Nat) := by
  have h : (2 : Rat) ^ a * (2 ^ ((1020 - a) + 54) : Nat) = S := by
    rw [← pow_cast, ← Rat.natCast_mul]
    unfold S
    rw [← Nat.pow_add]
    congr 2; omega
  have := pow_ne a
  grind
theorem Rd.errp {r : UInt64} {q : Rat} (a : Nat) (h : Rd r q) (h1 : -2 ^ a ≤ q) (h2 : q ≤ 2 ^ a) (ha : a ≤ 1000 := by decide) : FF r ∧ fv r - q ≤ 2 ^ a / 2 ^ 54 ∧ q - fv r ≤ 2 ^ a / 2 ^ 54 :=
  h.err (E_pow ha) (by omega) h1 h2
theorem Rd.erri {r : UInt64} {q : Rat} (a : Nat) (h : Rd r q) (h1 : -(1 / 2 ^ a) ≤ q) (h2 : q ≤ 1 / 2 ^ a) (ha : a ≤ 1000 := by decide) : FF r ∧ fv r - q ≤ 1 / 2 ^ a / 2 ^ 54 ∧ q - fv r ≤ 1 / 2 ^ a / 2 ^ 54 :=
  h.err (E_inv ha) (by omega) h1 h2
theorem Rd.err1 {r : UInt64} {q : Rat} (h : Rd r q) (h1 : -1 ≤ q) (h2 : q ≤ 1) : FF r ∧ fv r - q ≤ 1 / 2 ^ 54 ∧ q - fv r ≤ 1 / 2 ^ 54 := by
  have := h.errp 0 (by grind) (by grind)
  simpa using this
theorem Rd.err2 {r : UInt64} {q : Rat} (h : Rd r q) (h1 : -2 ≤ q) (h2 : q ≤ 2) : FF r ∧ fv r - q ≤ 1 / 2 ^ 53 ∧ q - fv r ≤ 1 / 2 ^ 53 := by
  have := h.errp 1 (by grind) (by grind)
  exact ⟨this.1, by grind, by grind⟩

theorem fv_lt {x y : UInt64} : fv x < fv y ↔ val x < val y := by
  constructor
  · intro h
    have := Rat.mul_lt_mul_of_pos_right h S_pos
    rw [fv_S, fv_S] at this
    exact Rat.intCast_lt_intCast.mp this
  · intro h
    apply Rat.lt_of_mul_lt_mul_right (c := (S : Rat)) _ (Rat.le_of_lt S_pos)
    rw [fv_S, fv_S]
    exact Rat.intCast_lt_intCast.mpr h
theorem fv_eq {x y : UInt64} : fv x = fv y ↔ val x = val y := by
  constructor
  · intro h
    have : fv x * S = fv y * S := by rw [h]
    rw [fv_S, fv_S] at this
    exact Rat.intCast_inj.mp this
  · intro h; unfold fv; rw [h]

theorem cmp_lt {x y : UInt64} (hx : FF x) (hy : FF y) : (Float64.cmp x y == some .lt) = decide (fv x < fv y) := by
  obtain ⟨a, m, e, h1⟩ := hx.dec; obtain ⟨b, k, f, h2⟩ := hy.dec
  rw [cmp_right h1 h2]
  by_cases h : val x < val y
  · rw [decide_eq_true (fv_lt.mpr h), Int.compare_eq_lt.mpr h]; rfl
  · rw [decide_eq_false (fun z => h (fv_lt.mp z))]
    cases hc : compare (val x) (val y) with
    | lt => exact absurd (Int.compare_eq_lt.mp hc) h
    | _ => rfl
theorem cmp_eq {x y : UInt64} (hx : FF x) (hy : FF y) : (Float64.cmp x y == some .eq) = decide (fv x = fv y) := by
  obtain ⟨a, m, e, h1⟩ := hx.dec; obtain ⟨b, k, f, h2⟩ := hy.dec
  rw [cmp_right h1 h2]
  by_cases h : val x = val y
  · rw [decide_eq_true (fv_eq.mpr h), Int.compare_eq_eq.mpr h]; rfl
  · rw [decide_eq_false (fun z => h (fv_eq.mp z))]
    cases hc : compare (val x) (val y) with
    | eq => exact absurd (Int.compare_eq_eq.mp hc) h
    | _ => rfl

theorem isZero_fv {x : UInt64} (hx : FF x) : Float64.isZero x = decide (fv x = 0) := by
  obtain ⟨a, m, e, h1⟩ := hx.dec
  unfold isZero
  rw [h1]
  have hv := val_eq h1
  by_cases hm : m = 0
  · subst hm
    have : val x = 0 := by rw [hv]; unfold sgn; cases a <;> simp
    have : fv x = 0 := by unfold fv; rw [this]; simp [Rat.div_def]
    rw [decide_eq_true this]; rfl
  · have hp : 0 < m * 2 ^ (e + 1074).toNat := Nat.mul_pos (by omega) (Nat.two_pow_pos _)
    have : val x ≠ 0 := by
      rw [hv]; generalize m * 2 ^ (e + 1074).toNat = z at hp
      unfold sgn; cases a <;> simp <;> omega
    rw [decide_eq_false fun z => this ?_]
    · split
      · rename_i h; cases h; exact absurd rfl hm
      · rfl
    · have z' : fv x * S = 0 := by rw [z]; grind
      rw [fv_S] at z'
      exact Rat.intCast_eq_zero_iff.mp z'

theorem fv_const {x : UInt64} {m : Int} {j k : Nat} (h : val x = m * 2 ^ j) (hjk : j + k = 1074) : fv x = (m : Rat) / 2 ^ k := by
  have h1 : fv x * S = m * (2 : Rat) ^ j := by rw [fv_S, h, Rat.intCast_mul, Rat.intCast_pow]; rfl
  have h2 : (S : Rat) = (2 : Rat) ^ j * 2 ^ k := by
    unfold S
    rw [← pow_cast, ← pow_cast, ← Rat.natCast_mul, ← Nat.pow_add, hjk]
  have := pow_ne j; have := pow_ne k
  rw [h2] at h1
  grind

/-- rounding to a whole number -/
theorem roundF_near {x : UInt64} {n : Int} (hx : FF x) (h1 : fv x - n < 1 / 2) (h2 : n - fv x < 1 / 2) : roundF x = n := by
  obtain ⟨s, m, e, hd⟩ := hx.dec
  unfold roundF PySem.Flt.toInt
  rw [hd]
  show sgn s (halfEven (Float64.shift m 1 e).1 (Float64.shift m 1 e).2) = n
  have hp := shift_pos m 1 e (by decide)
  have hs := shift_one m e 1074 (by have := decode_ge hd; omega)
  generalize (Float64.shift m 1 e).1 = a at *
  generalize (Float64.shift m 1 e).2 = d at *
  have hv := val_natAbs hd
  have hdp : (0 : Rat) < d := Rat.natCast_pos.mpr hp
  -- |fv x| * d = a
  have hfa : (if s then -(fv x) else fv x) * d = a := by
    have e1 : (a : Rat) * S = ((val x).natAbs : Rat) * d := by
      rw [hv]; show (a : Rat) * ((2 ^ 1074 : Nat) : Rat) = _
      rw [← Rat.natCast_mul, ← Rat.natCast_mul, hs]
      congr 1
    have e2 : (((val x).natAbs : Nat) : Rat) = if s then -(fv x * S) else fv x * S := by
      have := val_sgn hd
      have h3 := sgn_cast s (val x).natAbs
      rw [this, ← fv_S x] at h3
      cases s <;> simp at h3 ⊢ <;> grind
    rw [e2] at e1
    have := S_pos
    have hSne := S_ne
    cases s <;> simp at e1 ⊢ <;> grind
  have hn0 : if s then n ≤ 0 else 0 ≤ n := by
    have ha : (0 : Rat) ≤ a := Rat.natCast_nonneg
    have pos : (0 : Rat) ≤ (if s then -(fv x) else fv x) := Rat.le_of_mul_le_mul_right (c := (d : Rat)) (by rw [hfa]; simpa using ha) hdp
    cases s with
    | true =>
      simp only [if_true] at pos ⊢
      have : (n : Rat) < ((1 : Int) : Rat) := by rw [Rat.intCast_one]; grind
      have := Rat.intCast_lt_intCast.mp this
      omega
    | false =>
      simp only [Bool.false_eq_true, if_false] at pos ⊢
      have : ((-1 : Int) : Rat) < (n : Rat) := by rw [Rat.intCast_neg, Rat.intCast_one]; grind
      have := Rat.intCast_lt_intCast.mp this
      omega
  have hnear := dist_cases (halfEven_nearest a d hp n.natAbs)
  have hN : ((n.natAbs : Nat) : Rat) = if s then -(n : Rat) else n := by
    rw [← Rat.intCast_natCast]
    cases s <;> simp at hn0 ⊢
    · rw [show ((n.natAbs : Nat) : Int) = n by omega]
    · rw [show ((n.natAbs : Nat) : Int) = -n by omega, Rat.intCast_neg]
  generalize halfEven a d = k at *
  simp only [Rat.natCast_mul] at hnear
  -- d * |k - N| < d
  have key : ((k : Rat) - (n.natAbs : Nat)) * d < 1 * d ∧ ((n.natAbs : Nat) - (k : Rat)) * d < 1 * d := by
    have g1 := Rat.mul_lt_mul_of_pos_right h1 hdp
    have g2 := Rat.mul_lt_mul_of_pos_right h2 hdp
    cases s <;> simp at hN hfa <;> rw [hN] at hnear ⊢ <;> rcases hnear with ⟨x1, x2, x3⟩ | ⟨x1, x2, x3⟩ <;> constructor <;> grind
  have k1 := Rat.lt_of_mul_lt_mul_right key.1 (Rat.le_of_lt hdp)
  have k2 := Rat.lt_of_mul_lt_mul_right key.2 (Rat.le_of_lt hdp)
  have c1 : ((k : Int) : Rat) < ((n.natAbs + 1 : Int) : Rat) := by rw [Rat.intCast_add, Rat.intCast_one, Rat.intCast_natCast, Rat.intCast_natCast]; grind
  have c2 : ((n.natAbs : Int) : Rat) < ((k + 1 : Int) : Rat) := by rw [Rat.intCast_add, Rat.intCast_one, Rat.intCast_natCast, Rat.intCast_natCast]; grind
  have c1 := Rat.intCast_lt_intCast.mp c1
  have c2 := Rat.intCast_lt_intCast.mp c2
  have hk : k = n.natAbs := by omega
  rw [hk]
  unfold sgn
  cases s <;> simp at hn0 ⊢ <;> omega
end Mine

end
section
open PySem PySem.Float64
namespace Mine

end Mine

end
section
open PySem PySem.Float64
namespace Mine

/-- a fraction of the depth -/
theorem frac_err {t a : Int} (h1 : 1 ≤ t) (h0 : 0 ≤ a) (h2 : a ≤ t) : ∃ ρ : Rat, ρ * t = a ∧ 0 ≤ ρ ∧ ρ ≤ 1 ∧ FF (divI a t) ∧ fv (divI a t) - ρ ≤ 1 / 2 ^ 54 ∧ ρ - fv (divI a t) ≤ 1 / 2 ^ 54 ∧ 0 ≤ fv (divI a t) ∧ fv (divI a t) ≤ 1 := by
  have ht : (0 : Rat) < t := Rat.intCast_pos.mpr (by omega)
  have hne : (t : Rat) ≠ 0 := by grind
  have ha : (0 : Rat) ≤ a := Rat.intCast_nonneg.mpr h0
  have hat : (a : Rat) ≤ t := icast_le h2
  have e : (a : Rat) / t * t = a := Rat.div_mul_cancel hne
  have q0 : 0 ≤ (a : Rat) / t := Rat.le_of_mul_le_mul_right (c := (t : Rat)) (by rw [e]; grind) ht
  have q1 : (a : Rat) / t ≤ 1 := Rat.le_of_mul_le_mul_right (c := (t : Rat)) (by rw [e]; grind) ht
  have hr := Rd_frac (a := a) (b := t) (by omega)
  obtain ⟨f, p, q⟩ := hr.err1 (by grind) (by grind)
  refine ⟨_, e, q0, q1, f, p, q, ?_, ?_⟩
  · exact hr.ge f ⟨0, 0, by decide, by simp⟩ q0
  · exact hr.le f ⟨1, 1074, by decide, by rw [Rat.one_mul]; unfold S; rw [Rat.intCast_one, Rat.one_mul]⟩ q1

theorem int_exact {a : Int} (h1 : -(2 ^ 53) ≤ a) (h2 : a ≤ 2 ^ 53) : FF (Float64.ofInt a) ∧ fv (Float64.ofInt a) = a := by
  have hr := Rd_int a
  have c1 := icast_le h1
  have c2 := icast_le h2
  rw [show ((-(2 ^ 53) : Int) : Rat) = -2 ^ 53 from by decide +kernel] at c1
  rw [show ((2 ^ 53 : Int) : Rat) = 2 ^ 53 from by decide +kernel] at c2
  obtain ⟨f, _⟩ := hr.errp 53 c1 c2
  exact ⟨f, hr.exact f ⟨a, 1074, by omega, rfl⟩⟩

end Mine

end
section
open PySem PySem.Float64
namespace Mine

theorem fv0 : FF 0 ∧ fv 0 = 0 := ⟨by decide +kernel, by have := fv_const (x := 0) (m := 0) (j := 1074) (k := 0) (by decide +kernel) (by decide); rw [this]; decide +kernel⟩
theorem fv1 : FF 4607182418800017408 ∧ fv 4607182418800017408 = 1 := ⟨by decide +kernel, by have := fv_const (x := 4607182418800017408) (m := 1) (j := 1074) (k := 0) (by decide +kernel) (by decide); rw [this]; decide +kernel⟩

end Mine

end
section
open PySem PySem.Float64
namespace Mine

theorem one_Rp : Rp 1 := ⟨1, 1074, by decide, by rw [Rat.one_mul]; unfold S; rw [Rat.intCast_one, Rat.one_mul]⟩
theorem cmp_le {x y : UInt64} (hx : FF x) (hy : FF y) : (Float64.cmp x y == some .lt || Float64.cmp x y == some .eq) = decide (fv x ≤ fv y) := by
  rw [cmp_lt hx hy, cmp_eq hx hy]
  by_cases h1 : fv x < fv y
  · simp [h1, Rat.le_of_lt h1]
  · by_cases h2 : fv x = fv y
    · simp [h2]
    · have : ¬ fv x ≤ fv y := fun h => by grind
      simp [h1, h2, this]

end Mine

end
section
open PySem PySem.Float64
namespace Mine

end Mine

end
section
open PySem PySem.Float64
namespace Mine

/-- the distance -/
noncomputable def dd (x y : Rat) : Rat := if x ≤ y then y - x else x - y
/-- t is the nearest of the floats, the even one of two -/
noncomputable def Nr (x : Rat) (t : Nat) : Prop := (∀ t', dd x (V t : Nat) ≤ dd x (V t' : Nat)) ∧ ∀ t', V t' ≠ V t → dd x (V t : Nat) = dd x (V t' : Nat) → t % 2 = 0

theorem dd_scale {x y u : Rat} (hu : 0 < u) : dd (x * u) (y * u) = dd x y * u := by
  unfold dd
  by_cases h : x ≤ y
  · rw [if_pos h, if_pos (Rat.mul_le_mul_of_nonneg_right h (Rat.le_of_lt hu))]; grind
  · rw [if_neg h, if_neg (fun z => h (Rat.le_of_mul_le_mul_right z hu))]; grind
theorem dist_dd (x y : Nat) : ((Float64.dist x y : Nat) : Rat) = dd x y := by
  unfold Float64.dist dd
  by_cases h : (x : Rat) ≤ y
  · rw [if_pos h]
    have := Rat.natCast_le_natCast.mp h
    have e : ((x - y + (y - x) : Nat) : Int) = (y : Int) - x := by omega
    rw [← Rat.intCast_natCast, e, Rat.intCast_sub]; rfl
  · rw [if_neg h]
    have : ¬ x ≤ y := fun z => h (cast_le z)
    have e : ((x - y + (y - x) : Nat) : Int) = (x : Int) - y := by omega
    rw [← Rat.intCast_natCast, e, Rat.intCast_sub]; rfl

theorem Rd.nr {r : UInt64} {q : Rat} (h : Rd r q) (hf : FF r) : ∃ (neg : Bool) (t : Nat), fv r * S = (if neg then -(V t : Rat) else V t) ∧ Nr ((if neg then -q else q) * S) t ∧ 0 ≤ (if neg then -q else q) := by
  obtain ⟨neg, W, D, t, hD, hu, hq, hv, hn⟩ := h.parts hf
  have hDp : (0 : Rat) < D := Rat.natCast_pos.mpr hD
  have hDne : (D : Rat) ≠ 0 := by grind
  have ex : (if neg then -q else q) * S * D = W := by cases neg <;> simp at hq ⊢ <;> grind
  have key : ∀ t', ((Float64.dist W (D * V t') : Nat) : Rat) = dd ((if neg then -q else q) * S) (V t' : Nat) * D := fun t' => by
    rw [dist_dd, ← dd_scale hDp, ex, Rat.natCast_mul, Rat.mul_comm]
  refine ⟨neg, t, ?_, ⟨fun t' => ?_, fun t' h1 h2 => (hn t').2 h1 ?_⟩, ?_⟩
  · rw [Rat.natCast_mul] at hv
    cases neg <;> simp at hv ⊢ <;> grind
  · have := cast_le (hn t').1
    rw [key, key] at this
    exact Rat.le_of_mul_le_mul_right this hDp
  · apply Rat.natCast_inj.mp
    rw [key, key, h2]
  · have hW : (0 : Rat) ≤ W := Rat.natCast_nonneg
    have : 0 * ((D : Rat) * S) ≤ (if neg then -q else q) * ((D : Rat) * S) := by grind
    exact Rat.le_of_mul_le_mul_right this hu

theorem vcast_lt {t t' : Nat} (h : V t < V t') : ((V t : Nat) : Rat) < (V t' : Nat) := Rat.natCast_lt_natCast.mpr h
theorem nr_unique' {x : Rat} {t t' : Nat} (h : Nr x t) (h' : Nr x t') (hlt : t < t') : False := by
  have v := vcast_lt (V_lt hlt)
  have a := h.1 t'
  have b := h'.1 t
  have e : dd x (V t : Nat) = dd x (V t' : Nat) := by grind
  have p1 := h.2 t' (by have := V_lt hlt; omega) e
  have p2 := h'.2 t (by have := V_lt hlt; omega) e.symm
  have v1 := vcast_lt (V_succ t)
  have v2 := vcast_lt (V_lt (show t + 1 < t' by omega))
  have c := h.1 (t + 1)
  unfold dd at *
  grind
theorem nr_unique {x : Rat} {t t' : Nat} (h : Nr x t) (h' : Nr x t') : t = t' := by
  rcases Nat.lt_trichotomy t t' with z | z | z
  · exact (nr_unique' h h' z).elim
  · exact z
  · exact (nr_unique' h' h z).elim

/-- a multiple of 2^-k -/
noncomputable def Gd (k : Nat) (q : Rat) : Prop := ∃ m : Int, q * 2 ^ k = m
theorem Gd.add {k : Nat} {p q : Rat} (h : Gd k p) (h' : Gd k q) : Gd k (p + q) := by
  obtain ⟨a, ha⟩ := h; obtain ⟨b, hb⟩ := h'
  exact ⟨a + b, by rw [Rat.intCast_add]; grind⟩
theorem Gd.sub {k : Nat} {p q : Rat} (h : Gd k p) (h' : Gd k q) : Gd k (p - q) := by
  obtain ⟨a, ha⟩ := h; obtain ⟨b, hb⟩ := h'
  exact ⟨a - b, by rw [Rat.intCast_sub]; grind⟩
theorem pow_split (a b : Nat) : (2 : Rat) ^ (a + b) = 2 ^ a * 2 ^ b := by
  rw [← pow_cast, ← pow_cast, ← pow_cast, Nat.pow_add, Rat.natCast_mul]
theorem Gd.mul {j k : Nat} {p q : Rat} (h : Gd j p) (h' : Gd k q) : Gd (j + k) (p * q) := by
  obtain ⟨a, ha⟩ := h; obtain ⟨b, hb⟩ := h'
  refine ⟨a * b, ?_⟩
  rw [Rat.intCast_mul, ← ha, ← hb, pow_split]
  grind
theorem Gd.more {j k : Nat} {p : Rat} (h : Gd j p) (hjk : j ≤ k) : Gd k p := by
  obtain ⟨a, ha⟩ := h
  refine ⟨a * (2 ^ (k - j) : Nat), ?_⟩
  rw [Rat.intCast_mul, ← ha, Rat.intCast_natCast, pow_cast, Rat.mul_assoc, ← pow_split, show j + (k - j) = k by omega]
theorem Gd.tiny {k : Nat} {p : Rat} (h : Gd k p) : p = 0 ∨ 1 / 2 ^ k ≤ p ∨ p ≤ -(1 / 2 ^ k) := by
  obtain ⟨a, ha⟩ := h
  have hp : (0 : Rat) < 2 ^ k := Rat.pow_pos (by decide)
  have hne := pow_ne k
  have e : (1 / 2 ^ k : Rat) * 2 ^ k = 1 := Rat.div_mul_cancel hne
  rcases Int.lt_trichotomy a 0 with z | z | z
  · right; right
    have : (a : Rat) ≤ ((-1 : Int) : Rat) := icast_le (by omega)
    rw [Rat.intCast_neg, Rat.intCast_one] at this
    apply Rat.le_of_mul_le_mul_right (c := (2 : Rat) ^ k) _ hp
    grind
  · left; subst z; simp at ha; grind
  · right; left
    have : ((1 : Int) : Rat) ≤ (a : Rat) := icast_le (by omega)
    rw [Rat.intCast_one] at this
    apply Rat.le_of_mul_le_mul_right (c := (2 : Rat) ^ k) _ hp
    grind
theorem Rp_grid {k : Nat} (hk : k ≤ 1000) {m : Int} (hm : m.natAbs ≤ 2 ^ 53) {q : Rat} (h : q * 2 ^ k = m) : Rp q := by
  refine ⟨m, 1074 - k, hm, ?_⟩
  have : (S : Rat) = 2 ^ k * 2 ^ (1074 - k) := by
    rw [← pow_split, show k + (1074 - k) = 1074 by omega, ← pow_cast]; rfl
  rw [this, ← h, pow_cast]; grind
end Mine

end
section
open PySem PySem.Float64
namespace Mine

theorem pow_mono2 {a b : Nat} (h : a ≤ b) : (2 : Rat) ^ a ≤ 2 ^ b := by
  rw [← pow_cast, ← pow_cast]; exact cast_le (Nat.pow_le_pow_right (by decide) h)
end Mine

end
section
open PySem PySem.Float64
namespace Mine

end Mine

end
section
open PySem PySem.Float64
namespace Mine

theorem Rd.mono {r r' : UInt64} {q q' : Rat} (h : Rd r q) (h' : Rd r' q') (hf : FF r) (hf' : FF r') (hq : q ≤ q') : fv r ≤ fv r' := by
  by_cases e : q = q'
  · subst e
    obtain ⟨neg, t, e1, n1, p1⟩ := h.nr hf
    obtain ⟨neg', t', e2, n2, p2⟩ := h'.nr hf'
    by_cases hs : neg = neg'
    · subst hs
      have := nr_unique n1 n2
      subst this
      have : fv r * S = fv r' * S := by rw [e1, e2]
      have := S_ne
      grind
    · have z : q = 0 := by cases neg <;> cases neg' <;> simp at p1 p2 hs <;> grind
      subst z
      have z : Rp 0 := ⟨0, 0, by decide, by simp⟩
      rw [h.exact hf z, h'.exact hf' z]
      exact Rat.le_refl
  · have a := h.near hf (d := if fv r' ≤ q then q - fv r' else fv r' - q) (Rp_fv hf') (by grind) (by grind)
    have b := h'.near hf' (d := if fv r ≤ q' then q' - fv r else fv r - q') (Rp_fv hf) (by grind) (by grind)
    grind

theorem Rd_bin {a : Bool} {M : Nat} {g : Int} (hg : -1074 ≤ g) : Rd (ofBin a M g) (((sgn a (M * 2 ^ (g + 1074).toNat) : Int) : Rat) / S) := by
  refine ⟨a, M * 2 ^ (g + 1074).toNat, 1, by decide, ?_, ?_⟩
  · unfold ofBin
    have := shift_one M g 1074 (by omega)
    have hp := shift_pos M 1 g (by decide)
    generalize Float64.shift M 1 g = z at *
    obtain ⟨n, d⟩ := z
    exact ofFrac_right hp (by rw [Nat.mul_one]; exact this) (by decide)
  · show _ / (S : Rat) * (((1 : Nat) : Rat) * S) = _
    rw [show ((1 : Nat) : Rat) = 1 from rfl, Rat.one_mul, Rat.div_mul_cancel S_ne]

theorem decode_one : decode 4607182418800017408 = .fin false (2 ^ 52) (-52) := by kernel_rfl

/-- the rest by 1.0 -/
theorem fmod_one {x : UInt64} (hx : FF x) : FF (fmod x 4607182418800017408) ∧ ∃ k : Int, fv x = k + fv (fmod x 4607182418800017408) ∧ fv (fmod x 4607182418800017408) < 1 ∧ -1 < fv (fmod x 4607182418800017408) ∧ (0 ≤ fv x → 0 ≤ fv (fmod x 4607182418800017408)) ∧ (fv x ≤ 0 → fv (fmod x 4607182418800017408) ≤ 0) := by
  obtain ⟨a, m, e, hd⟩ := hx.dec
  have he := decode_ge hd
  have hm := (decode_le hd).1
  have hg : -1074 ≤ min e (-52) := by omega
  have hfm : fmod x 4607182418800017408 = ofBin a (m * 2 ^ (e - min e (-52)).toNat % (2 ^ 52 * 2 ^ (-52 - min e (-52)).toNat)) (min e (-52)) := by
    unfold fmod
    rw [hd, decode_one]
    simp only [align, sgn, Bool.false_eq_true, if_false, Int.toNat_natCast]
    rfl
  rw [hfm]
  generalize hgg : min e (-52) = g at *
  have hr := Rd_bin (a := a) (M := m * 2 ^ (e - g).toNat % (2 ^ 52 * 2 ^ (-52 - g).toNat)) hg
  have hq : 2 ^ 52 * 2 ^ (-52 - g).toNat * 2 ^ (g + 1074).toNat = S := by
    unfold S; rw [← Nat.pow_add, ← Nat.pow_add]; congr 1; omega
  have hp : m * 2 ^ (e - g).toNat * 2 ^ (g + 1074).toNat = (val x).natAbs := by
    rw [val_natAbs hd, Nat.mul_assoc, ← Nat.pow_add]; congr 2; omega
  have hM : m * 2 ^ (e - g).toNat % (2 ^ 52 * 2 ^ (-52 - g).toNat) ≤ 2 ^ 53 := by
    by_cases h1 : -52 ≤ e
    · have : g = -52 := by omega
      subst this
      have := Nat.mod_lt (m * 2 ^ (e - -52).toNat) (y := 2 ^ 52 * 2 ^ (-52 - -52 : Int).toNat) (by decide)
      have e0 : (2 : Nat) ^ 52 * 2 ^ (-52 - -52 : Int).toNat = 2 ^ 52 := by decide
      rw [e0] at this ⊢
      omega
    · have : g = e := by omega
      subst this
      have e0 : (g - g).toNat = 0 := by omega
      rw [e0, Nat.pow_zero, Nat.mul_one]
      exact Nat.le_trans (Nat.mod_le _ _) (by omega)
  have hW : m * 2 ^ (e - g).toNat % (2 ^ 52 * 2 ^ (-52 - g).toNat) * 2 ^ (g + 1074).toNat = (val x).natAbs % S := by
    rw [← hp, ← hq, Nat.mul_mod_mul_right]
  have hSp : 0 < S := Nat.two_pow_pos _
  have hlt := Nat.mod_lt (val x).natAbs hSp
  have hdm := Nat.div_add_mod (val x).natAbs S
  have hSne := S_ne
  have hS := S_pos
  have hltQ : (((val x).natAbs % S : Nat) : Rat) < S := Rat.natCast_lt_natCast.mpr hlt
  have hnn : (0 : Rat) ≤ (((val x).natAbs % S : Nat) : Rat) := Rat.natCast_nonneg
  generalize hMM : m * 2 ^ (e - g).toNat % (2 ^ 52 * 2 ^ (-52 - g).toNat) = M at *
  rw [hW] at hr
  have hrp : Rp (((sgn a ((val x).natAbs % S) : Int) : Rat) / S) := by
    refine ⟨sgn a M, (g + 1074).toNat, by rw [sgn_natAbs]; exact hM, ?_⟩
    rw [Rat.div_mul_cancel hSne, ← hW, sgn_mul, Rat.intCast_mul]; rfl
  have hb : -1 < ((sgn a ((val x).natAbs % S) : Int) : Rat) / S ∧ ((sgn a ((val x).natAbs % S) : Int) : Rat) / S < 1 := by
    have e1 : ((sgn a ((val x).natAbs % S) : Int) : Rat) / S * S = ((sgn a ((val x).natAbs % S) : Int) : Rat) := Rat.div_mul_cancel hSne
    rw [sgn_cast] at e1 ⊢
    constructor
    · apply Rat.lt_of_mul_lt_mul_right (c := (S : Rat)) _ (Rat.le_of_lt hS)
      rw [e1]; cases a <;> simp <;> grind
    · apply Rat.lt_of_mul_lt_mul_right (c := (S : Rat)) _ (Rat.le_of_lt hS)
      rw [e1]; cases a <;> simp <;> grind
  have f : FF (ofBin a M g) := (hr.err1 (by grind) (by grind)).1
  have ev := hr.exact f hrp
  refine ⟨f, sgn a ((val x).natAbs / S), ?_, ?_⟩
  · have hv : fv x * S = ((sgn a (val x).natAbs : Int) : Rat) := by rw [fv_S, val_sgn hd]
    have h1 : ((sgn a (val x).natAbs : Int) : Rat) = (sgn a ((val x).natAbs / S) : Int) * S + (sgn a ((val x).natAbs % S) : Int) := by
      have h2 : ((val x).natAbs : Rat) = S * (((val x).natAbs / S : Nat) : Rat) + (((val x).natAbs % S : Nat) : Rat) := by rw [← Rat.natCast_mul, ← Rat.natCast_add, hdm]
      rw [sgn_cast, sgn_cast, sgn_cast]
      cases a <;> simp <;> grind
    rw [ev]
    have e1 : ((sgn a ((val x).natAbs % S) : Int) : Rat) / S * S = ((sgn a ((val x).natAbs % S) : Int) : Rat) := Rat.div_mul_cancel hSne
    have : fv x * S = ((sgn a ((val x).natAbs / S) : Int) + ((sgn a ((val x).natAbs % S) : Int) : Rat) / S) * S := by rw [hv, h1]; grind
    grind
  · rw [ev]
    refine ⟨hb.2, hb.1, fun h0 => ?_, fun h0 => ?_⟩
    · apply Rat.le_of_mul_le_mul_right (c := (S : Rat)) _ hS
      rw [Rat.div_mul_cancel hSne, sgn_cast]
      have hv : fv x * S = ((sgn a (val x).natAbs : Int) : Rat) := by rw [fv_S, val_sgn hd]
      rw [sgn_cast] at hv
      have h3 := Rat.mul_le_mul_of_nonneg_right h0 (Rat.le_of_lt hS)
      cases a
      · simp; exact hnn
      · simp at hv ⊢
        have h4 : ((val x).natAbs : Rat) ≤ 0 := by grind
        have h5 : (val x).natAbs ≤ 0 := Rat.natCast_le_natCast.mp h4
        have : (val x).natAbs = 0 := by omega
        rw [this]; simp
    · apply Rat.le_of_mul_le_mul_right (c := (S : Rat)) _ hS
      rw [Rat.div_mul_cancel hSne, sgn_cast]
      have hv : fv x * S = ((sgn a (val x).natAbs : Int) : Rat) := by rw [fv_S, val_sgn hd]
      rw [sgn_cast] at hv
      have h3 := Rat.mul_le_mul_of_nonneg_right h0 (Rat.le_of_lt hS)
      cases a
      · simp at hv ⊢
        have h4 : ((val x).natAbs : Rat) ≤ 0 := by grind
        have h5 : (val x).natAbs ≤ 0 := Rat.natCast_le_natCast.mp h4
        have : (val x).natAbs = 0 := by omega
        rw [this]; simp
      · simp; grind
end Mine

end
section
open PySem PySem.Float64
namespace Mine

/-- x % 1.0 -/
noncomputable def mod1 (x : UInt64) : UInt64 := (Float64.divmod x 4607182418800017408).2

theorem mod1_eq (x : UInt64) : mod1 x = if Float64.isZero (fmod x 4607182418800017408) = true then 0 else if (Float64.cmp (fmod x 4607182418800017408) 0 == some .lt) = true then Float64.add (fmod x 4607182418800017408) 4607182418800017408 else fmod x 4607182418800017408 := by
  unfold mod1 divmod
  simp only
  have e1 : copysign (zero false) 4607182418800017408 = 0 := by decide +kernel
  have e2 : Float64.lt 4607182418800017408 (zero false) = false := by decide +kernel
  have e3 : (zero false : UInt64) = 0 := by decide +kernel
  have e4 : ∀ y, Float64.lt y (zero false) = (Float64.cmp y 0 == some .lt) := fun y => by rw [e3]; rfl
  rw [e1, e2, e4]
  by_cases h : Float64.isZero (fmod x 4607182418800017408) = true
  · simp [h]
  · rw [if_neg h, if_neg h]
    cases hc : (Float64.cmp (fmod x 4607182418800017408) 0 == some .lt) <;> simp

theorem mod1_spec {x : UInt64} (hx : FF x) : FF (mod1 x) ∧ 0 ≤ fv (mod1 x) ∧ fv (mod1 x) ≤ 1 ∧ ∃ (k : Int) (f : Rat), fv x = k + f ∧ 0 ≤ f ∧ f < 1 ∧ (fv (mod1 x) = f ∨ (fv x < 0 ∧ Rd (mod1 x) f)) := by
  obtain ⟨fm, k, hk, h1, h2, h3, h4⟩ := fmod_one hx
  rw [mod1_eq]
  generalize fmod x 4607182418800017408 = m at *
  rw [isZero_fv fm, cmp_lt fm fv0.1, fv0.2]
  by_cases z : fv m = 0
  · rw [if_pos (by simpa using z)]
    exact ⟨fv0.1, by rw [fv0.2]; exact Rat.le_refl, by rw [fv0.2]; decide, k, 0, by grind, by decide, by decide, .inl fv0.2⟩
  · rw [if_neg (by simpa using z)]
    by_cases n : fv m < 0
    · rw [if_pos (by simpa using n)]
      have hr := Rd_add fm fv1.1
      rw [fv1.2] at hr
      obtain ⟨f, _⟩ := hr.err1 (by grind) (by grind)
      refine ⟨f, hr.ge f ⟨0, 0, by decide, by simp⟩ (by grind), hr.le f one_Rp (by grind), k - 1, fv m + 1, by rw [Rat.intCast_sub, Rat.intCast_one]; grind, by grind, by grind, .inr ⟨?_, hr⟩⟩
      by_cases q : fv x < 0
      · exact q
      · exact absurd (h3 (by grind)) (by grind)
    · rw [if_neg (by simpa using n)]
      exact ⟨fm, by grind, by grind, k, fv m, hk, by grind, h1, .inl rfl⟩
end Mine

end
section
open PySem PySem.Float64
namespace Mine

/-- the relative error -/
theorem Rd.relN {r : UInt64} {q : Rat} (h : Rd r q) (k : Nat) (hk1 : (2 ^ k : Nat) ≤ (if q < 0 then -q else q) * S) (hk2 : (if q < 0 then -q else q) * S ≤ (2 ^ (k + 1) : Nat)) (h53 : 53 ≤ k) (hk : k ≤ 2000) :
    FF r ∧ fv r - q ≤ (if q < 0 then -q else q) / 2 ^ 53 ∧ q - fv r ≤ (if q < 0 then -q else q) / 2 ^ 53 := by
  have hS := S_pos
  have hSne := S_ne
  generalize ha : (if q < 0 then -q else q) = a at *
  have hE : ((2 ^ (k + 1) : Nat) : Rat) / S * S = (2 ^ (k - 53 + 54) : Nat) := by rw [Rat.div_mul_cancel hSne, show k - 53 + 54 = k + 1 by omega]
  have b : a ≤ ((2 ^ (k + 1) : Nat) : Rat) / S := Rat.le_of_mul_le_mul_right (c := (S : Rat)) (by rw [Rat.div_mul_cancel hSne]; exact hk2) hS
  obtain ⟨f, p, q'⟩ := h.err hE (by omega) (by grind) (by grind)
  have e : ((2 ^ (k + 1) : Nat) : Rat) / S / 2 ^ 54 ≤ a / 2 ^ 53 := by
    apply Rat.le_of_mul_le_mul_right (c := (S : Rat)) _ hS
    have e1 : ((2 ^ (k + 1) : Nat) : Rat) = ((2 ^ k : Nat) : Rat) * 2 := by rw [Nat.pow_succ, Rat.natCast_mul]; rfl
    have e2 : ((2 ^ (k + 1) : Nat) : Rat) / S / 2 ^ 54 * S = ((2 ^ k : Nat) : Rat) / 2 ^ 53 := by rw [e1]; grind
    have e3 : a / 2 ^ 53 * S = a * S / 2 ^ 53 := by grind
    rw [e2, e3]
    grind
  exact ⟨f, by grind, by grind⟩

theorem two_pow_bracket {y : Rat} (h : (2 ^ 53 : Nat) ≤ y) (h2 : y ≤ (2 ^ 2000 : Nat)) : ∃ k, 53 ≤ k ∧ k ≤ 2000 ∧ ((2 ^ k : Nat) : Rat) ≤ y ∧ y ≤ (2 ^ (k + 1) : Nat) := by
  have f1 := Rat.floor_le y
  have f2 := Rat.lt_floor_add_one y
  have hn : (2 ^ 53 : Nat) ≤ y.floor := by
    have : (((2 ^ 53 : Nat) : Int) : Rat) ≤ y := by rw [Rat.intCast_natCast]; exact h
    exact Rat.le_floor_iff.mpr this
  have hne : y.floor.toNat ≠ 0 := by
    have : (1 : Int) ≤ ((2 ^ 53 : Nat) : Int) := by decide
    omega
  have hcast : ((y.floor.toNat : Nat) : Int) = y.floor := by
    have : (1 : Int) ≤ ((2 ^ 53 : Nat) : Int) := by decide
    omega
  refine ⟨y.floor.toNat.log2, ?_, ?_, ?_, ?_⟩
  · have : 2 ^ 53 ≤ y.floor.toNat := by omega
    exact (Nat.le_log2 hne).mpr this
  · have h3 : y.floor ≤ ((2 ^ 2000 : Nat) : Int) := by
      have : (y.floor : Rat) ≤ (((2 ^ 2000 : Nat) : Int) : Rat) := by rw [Rat.intCast_natCast]; exact Rat.le_trans f1 h2
      exact Rat.intCast_le_intCast.mp this
    have h4 : y.floor.toNat ≤ 2 ^ 2000 := by
      generalize 2 ^ 2000 = z at *
      omega
    have h5 : y.floor.toNat < 2 ^ 2001 := Nat.lt_of_le_of_lt h4 (Nat.pow_lt_pow_right (by decide) (by decide))
    have := (Nat.log2_lt hne).mpr h5
    omega
  · have h3 := Nat.log2_self_le hne
    have h4 : ((2 ^ y.floor.toNat.log2 : Nat) : Rat) ≤ (y.floor.toNat : Nat) := cast_le h3
    have h5 : ((y.floor.toNat : Nat) : Rat) = (y.floor : Rat) := by rw [← Rat.intCast_natCast, hcast]
    rw [h5] at h4
    exact Rat.le_trans h4 f1
  · have h3 := @Nat.lt_log2_self y.floor.toNat
    have h4 : (((y.floor + 1 : Int)) : Rat) ≤ ((2 ^ (y.floor.toNat.log2 + 1) : Nat) : Rat) := by
      rw [← Rat.intCast_natCast]
      apply icast_le
      generalize 2 ^ (y.floor.toNat.log2 + 1) = z at *
      omega
    exact Rat.le_trans (Rat.le_of_lt f2) h4

/-- relative error off the smallest floats -/
theorem Rd.rel {r : UInt64} {q : Rat} (h : Rd r q) (h1 : q = 0 ∨ (2 ^ 53 : Nat) ≤ (if q < 0 then -q else q) * S) (h2 : (if q < 0 then -q else q) ≤ 2 ^ 900) :
    FF r ∧ fv r - q ≤ (if q < 0 then -q else q) / 2 ^ 53 ∧ q - fv r ≤ (if q < 0 then -q else q) / 2 ^ 53 := by
  rcases h1 with z | z
  · subst z
    obtain ⟨f, _⟩ := h.err1 (by decide) (by decide)
    have := h.exact f ⟨0, 0, by decide, by simp⟩
    rw [this]
    refine ⟨f, by simp only [if_neg (show ¬ (0 : Rat) < 0 by decide)]; grind, by simp only [if_neg (show ¬ (0 : Rat) < 0 by decide)]; grind⟩
  · obtain ⟨k, k1, k2, k3, k4⟩ := two_pow_bracket z (by
      have hS := S_pos
      have := Rat.mul_le_mul_of_nonneg_right h2 (Rat.le_of_lt hS)
      refine Rat.le_trans this ?_
      rw [E_pow (by decide)]
      exact cast_le (Nat.pow_le_pow_right (by decide) (by decide)))
    exact h.relN k k3 k4 k1 k2

/-- a whole number of the smallest float: no lower bound is wanted -/
theorem Rd.relS {r : UInt64} {q : Rat} {i : Int} (h : Rd r q) (hi : q * S = i) (h2 : (if q < 0 then -q else q) ≤ 2 ^ 900) :
    FF r ∧ fv r - q ≤ (if q < 0 then -q else q) / 2 ^ 53 ∧ q - fv r ≤ (if q < 0 then -q else q) / 2 ^ 53 := by
  by_cases hb : i.natAbs ≤ 2 ^ 53
  · have hrp : Rp q := ⟨i, 0, hb, by rw [hi]; simp⟩
    have m := pow_mono2 (a := 900) (b := 1000) (by decide)
    have f : FF r := h.fin (by grind) (by grind)
    have e := h.exact f hrp
    rw [e]
    have : 0 ≤ (if q < 0 then -q else q) := by split <;> grind
    exact ⟨f, by grind, by grind⟩
  · refine h.rel (.inr ?_) h2
    have hS := S_pos
    have e : (if q < 0 then -q else q) * S = ((i.natAbs : Nat) : Rat) := by
      have h0 : q < 0 ↔ i < 0 := by
        constructor
        · intro z
          have := Rat.mul_lt_mul_of_pos_right z hS
          rw [hi] at this
          exact Rat.intCast_neg_iff.mp (by grind)
        · intro z
          have z' : (i : Rat) < 0 := Rat.intCast_neg_iff.mpr z
          rw [← hi] at z'
          exact Rat.lt_of_mul_lt_mul_right (c := (S : Rat)) (by grind) (Rat.le_of_lt hS)
      by_cases z : q < 0
      · rw [if_pos z, ← Rat.intCast_natCast i.natAbs, show ((i.natAbs : Nat) : Int) = -i by have := h0.mp z; omega, Rat.intCast_neg, ← hi]; grind
      · rw [if_neg z, ← Rat.intCast_natCast i.natAbs, show ((i.natAbs : Nat) : Int) = i by have : ¬ i < 0 := fun y => z (h0.mpr y); omega, ← hi]
    rw [e]
    exact cast_le (by omega)
theorem rel_sub {x y : UInt64} (hx : FF x) (hy : FF y) (h0 : fv y ≤ fv x) (h2 : fv x - fv y ≤ 2 ^ 900) : FF (Float64.sub x y) ∧ fv (Float64.sub x y) - (fv x - fv y) ≤ (fv x - fv y) / 2 ^ 53 ∧ (fv x - fv y) - fv (Float64.sub x y) ≤ (fv x - fv y) / 2 ^ 53 := by
  have := (Rd_sub hx hy).relS (i := val x - val y) (by rw [Rat.intCast_sub, ← fv_S, ← fv_S]; grind) (by rw [if_neg (by grind)]; exact h2)
  rwa [if_neg (by grind)] at this
end Mine

end
section
open PySem PySem.Float64
namespace Mine

/-- the curve of _v over a turn -/
noncomputable def cv (f : Rat) : Rat := if f < 1/6 then 6 * f else if f < 1/2 then 1 else if f < 2/3 then 6 * (2/3 - f) else 0
noncomputable def cvP (x : Rat) : Rat := cv (x - x.floor)

theorem frac_bd (x : Rat) : 0 ≤ x - x.floor ∧ x - x.floor < 1 := by
  have h1 := Rat.floor_le x
  have h2 := Rat.lt_floor_add_one x
  rw [Rat.intCast_add, Rat.intCast_one] at h2
  exact ⟨by grind, by grind⟩
theorem cv_bd {f : Rat} (h0 : 0 ≤ f) : 0 ≤ cv f ∧ cv f ≤ 1 := by
  unfold cv; constructor <;> grind
theorem cvP_bd (x : Rat) : 0 ≤ cvP x ∧ cvP x ≤ 1 := cv_bd (frac_bd x).1
theorem cvP_add (x : Rat) (k : Int) : cvP (x + k) = cvP x := by
  unfold cvP
  rw [Rat.floor_add_intCast, Rat.intCast_add]
  congr 1; grind
theorem floor_of {x : Rat} {k : Int} (h0 : (k : Rat) ≤ x) (h1 : x < k + 1) : x.floor = k := by
  have a := Rat.le_floor_iff.mpr h0
  have b : x.floor < k + 1 := Rat.floor_lt_iff.mpr (by rw [Rat.intCast_add, Rat.intCast_one]; exact h1)
  omega
theorem cvP_of {x f : Rat} {k : Int} (h : x = k + f) (h0 : 0 ≤ f) (h1 : f < 1) : cvP x = cv f := by
  unfold cvP
  rw [floor_of (k := k) (by grind) (by grind)]
  congr 1; grind
theorem cv_lip {f g : Rat} (h0 : 0 ≤ f) (h : f ≤ g) : cv g - cv f ≤ 6 * (g - f) ∧ cv f - cv g ≤ 6 * (g - f) := by
  unfold cv; constructor <;> grind
theorem cv_zero : cv 0 = 0 := by decide +kernel
theorem cv_one : cv 1 = 0 := by decide +kernel
theorem cvP_lip' {x y : Rat} (h : x ≤ y) : cvP y - cvP x ≤ 6 * (y - x) ∧ cvP x - cvP y ≤ 6 * (y - x) := by
  have hx := frac_bd x
  have hy := frac_bd y
  have hm := Rat.floor_monotone h
  unfold cvP
  by_cases e : x.floor = y.floor
  · have := cv_lip hx.1 (show x - x.floor ≤ y - y.floor by rw [e]; grind)
    rw [e] at this ⊢
    grind
  · have h1 : (((x.floor + 1 : Int)) : Rat) ≤ (y.floor : Rat) := icast_le (by omega)
    rw [Rat.intCast_add, Rat.intCast_one] at h1
    have a := cv_lip hx.1 (Rat.le_of_lt hx.2)
    have b := cv_lip (f := 0) (by decide) hy.1
    rw [cv_one] at a
    rw [cv_zero] at b
    have b1 := cv_bd hx.1
    have b2 := cv_bd hy.1
    grind
theorem cvP_lip {x y e : Rat} (h1 : x - y ≤ e) (h2 : y - x ≤ e) : cvP x - cvP y ≤ 6 * e ∧ cvP y - cvP x ≤ 6 * e := by
  by_cases h : x ≤ y
  · have := cvP_lip' h; grind
  · have := cvP_lip' (x := y) (y := x) (by grind); grind

end Mine

end
section
open PySem PySem.Float64
namespace Mine

theorem k6i : FF 4595172819793696085 ∧ fv 4595172819793696085 = 6004799503160661 / 2 ^ 55 := ⟨by decide +kernel, by have := fv_const (x := 4595172819793696085) (m := 6004799503160661) (j := 1019) (k := 55) (by decide +kernel) (by decide); simpa using this⟩
theorem k3i : FF 4599676419421066581 ∧ fv 4599676419421066581 = 6004799503160661 / 2 ^ 54 := ⟨by decide +kernel, by have := fv_const (x := 4599676419421066581) (m := 6004799503160661) (j := 1020) (k := 54) (by decide +kernel) (by decide); simpa using this⟩
theorem k23 : FF 4604180019048437077 ∧ fv 4604180019048437077 = 6004799503160661 / 2 ^ 53 := ⟨by decide +kernel, by have := fv_const (x := 4604180019048437077) (m := 6004799503160661) (j := 1021) (k := 53) (by decide +kernel) (by decide); simpa using this⟩
theorem kh : FF 4602678819172646912 ∧ fv 4602678819172646912 = 1 / 2 := ⟨by decide +kernel, by have := fv_const (x := 4602678819172646912) (m := 1) (j := 1073) (k := 1) (by decide +kernel) (by decide); simpa using this⟩
theorem k2 : FF 4611686018427387904 ∧ fv 4611686018427387904 = 2 := ⟨by decide +kernel, by have := fv_const (x := 4611686018427387904) (m := 2) (j := 1074) (k := 0) (by decide +kernel) (by decide); rw [this]; decide +kernel⟩
theorem k4 : FF 4616189618054758400 ∧ fv 4616189618054758400 = 4 := ⟨by decide +kernel, by have := fv_const (x := 4616189618054758400) (m := 4) (j := 1074) (k := 0) (by decide +kernel) (by decide); rw [this]; decide +kernel⟩
theorem k6 : FF 4618441417868443648 ∧ fv 4618441417868443648 = 6 := ⟨by decide +kernel, by have := fv_const (x := 4618441417868443648) (m := 6) (j := 1074) (k := 0) (by decide +kernel) (by decide); rw [this]; decide +kernel⟩

theorem Rd.err4 {r : UInt64} {q : Rat} (h : Rd r q) (h1 : -4 ≤ q) (h2 : q ≤ 4) : FF r ∧ fv r - q ≤ 2 / 2 ^ 53 ∧ q - fv r ≤ 2 / 2 ^ 53 := by
  have e : (2 : Rat) ^ 2 = 4 := by decide +kernel
  have := h.errp 2 (by rw [e]; exact h1) (by rw [e]; exact h2)
  rw [e] at this
  exact ⟨this.1, by grind, by grind⟩
theorem Rd.err8 {r : UInt64} {q : Rat} (h : Rd r q) (h1 : -8 ≤ q) (h2 : q ≤ 8) : FF r ∧ fv r - q ≤ 4 / 2 ^ 53 ∧ q - fv r ≤ 4 / 2 ^ 53 := by
  have e : (2 : Rat) ^ 3 = 8 := by decide +kernel
  have := h.errp 3 (by rw [e]; exact h1) (by rw [e]; exact h2)
  rw [e] at this
  exact ⟨this.1, by grind, by grind⟩
theorem Rd.errq {r : UInt64} {q : Rat} (h : Rd r q) (h1 : -(1/4) ≤ q) (h2 : q ≤ 1/4) : FF r ∧ fv r - q ≤ 1 / 2 ^ 56 ∧ q - fv r ≤ 1 / 2 ^ 56 := by
  have e : (2 : Rat) ^ 2 = 4 := by decide +kernel
  have := h.erri 2 (by rw [e]; exact h1) (by rw [e]; exact h2)
  rw [e] at this
  exact ⟨this.1, by grind, by grind⟩

/-- _v -/
noncomputable def vT (m1 m2 h : UInt64) : UInt64 := if (Float64.cmp h 4595172819793696085 == some .lt) = true then Float64.add m1 (Float64.mul (Float64.mul (Float64.sub m2 m1) h) 4618441417868443648)
  else if (Float64.cmp h 4602678819172646912 == some .lt) = true then m2
  else if (Float64.cmp h 4604180019048437077 == some .lt) = true then Float64.add m1 (Float64.mul (Float64.mul (Float64.sub m2 m1) (Float64.sub 4604180019048437077 h)) 4618441417868443648) else m1
noncomputable def vF (m1 m2 hue : UInt64) : UInt64 := vT m1 m2 (mod1 hue)
theorem vT_eq {m1 m2 h : UInt64} (fh : FF h) : vT m1 m2 h = if fv h < 6004799503160661 / 2 ^ 55 then Float64.add m1 (Float64.mul (Float64.mul (Float64.sub m2 m1) h) 4618441417868443648)
  else if fv h < 1 / 2 then m2
  else if fv h < 6004799503160661 / 2 ^ 53 then Float64.add m1 (Float64.mul (Float64.mul (Float64.sub m2 m1) (Float64.sub 4604180019048437077 h)) 4618441417868443648) else m1 := by
  unfold vT
  rw [cmp_lt fh k6i.1, cmp_lt fh kh.1, cmp_lt fh k23.1, k6i.2, kh.2, k23.2]
  simp only [decide_eq_true_eq]

theorem mulc {a b x e c : Rat} (h1 : a - b ≤ e) (h2 : b - a ≤ e) (hx : 0 ≤ x) (hc : x ≤ c) (he : 0 ≤ e) : a * x - b * x ≤ e * c ∧ b * x - a * x ≤ e * c := by
  have a1 := Rat.mul_le_mul_of_nonneg_right h1 hx
  have a2 := Rat.mul_le_mul_of_nonneg_right h2 hx
  have a3 := Rat.mul_le_mul_of_nonneg_left hc he
  exact ⟨by grind, by grind⟩
/-- x in [0,c], |a| ≤ d -/
theorem mulb {a x d c : Rat} (h1 : a ≤ d) (h2 : -d ≤ a) (hx : 0 ≤ x) (hc : x ≤ c) : a * x ≤ d * c ∧ -(d * c) ≤ a * x := by
  have hd : 0 ≤ d := by grind
  have a1 := Rat.mul_le_mul_of_nonneg_right h1 hx
  have a2 := Rat.mul_le_mul_of_nonneg_right h2 hx
  have a3 := Rat.mul_le_mul_of_nonneg_left hc hd
  exact ⟨by grind, by grind⟩

theorem ramp_err {m1 m2 x : UInt64} {y : Rat} (f1 : FF m1) (f2 : FF m2) (fx : FF x) (a1 : -(1/8) ≤ fv m1) (a2 : fv m1 ≤ 9/8) (b1 : -(1/8) ≤ fv m2) (b2 : fv m2 ≤ 9/8)
    (d1 : fv m2 - fv m1 ≤ 9/8) (d2 : -(9/8) ≤ fv m2 - fv m1) (x0 : 0 ≤ fv x) (x1 : fv x ≤ 1/6) (y0 : 0 ≤ y) (y1 : y ≤ 1/6) (e1 : fv x - y ≤ 1/2^54) (e2 : y - fv x ≤ 1/2^54) :
    FF (Float64.add m1 (Float64.mul (Float64.mul (Float64.sub m2 m1) x) 4618441417868443648)) ∧
    fv (Float64.add m1 (Float64.mul (Float64.mul (Float64.sub m2 m1) x) 4618441417868443648)) - (fv m1 + (fv m2 - fv m1) * (6 * y)) ≤ 10 / 2^53 ∧
    (fv m1 + (fv m2 - fv m1) * (6 * y)) - fv (Float64.add m1 (Float64.mul (Float64.mul (Float64.sub m2 m1) x) 4618441417868443648)) ≤ 10 / 2^53 := by
  obtain ⟨fd, p1, q1⟩ := (Rd_sub f2 f1).err2 (by grind) (by grind)
  generalize Float64.sub m2 m1 = D at *
  have pb := mulb (d := 5/4) (a := fv D) (by grind) (by grind) x0 x1
  obtain ⟨fp, p2, q2⟩ := (Rd_mul fd fx).errq (by grind) (by grind)
  generalize Float64.mul D x = P at *
  have e3 := mulc (c := 1/6) p1 q1 x0 x1 (by decide +kernel)
  have e4 := mulb (a := fv x - y) (d := 1/2^54) (x := 1) (c := 1) e1 (by grind) (by decide) (by decide)
  have e5 : (fv m2 - fv m1) * (fv x - y) ≤ 9/8 * (1/2^54) ∧ -(9/8 * (1/2^54)) ≤ (fv m2 - fv m1) * (fv x - y) := by
    by_cases z : 0 ≤ fv x - y
    · exact mulb (d := 9/8) (by grind) (by grind) z e1
    · have := mulb (a := fv m2 - fv m1) (x := y - fv x) (d := 9/8) (by grind) (by grind) (by grind) e2
      exact ⟨by grind, by grind⟩
  obtain ⟨ft, p3, q3⟩ := (Rd_mul fp k6.1).err2 (by rw [k6.2]; grind) (by rw [k6.2]; grind)
  rw [k6.2] at p3 q3
  generalize Float64.mul P 4618441417868443648 = T at *
  obtain ⟨fr, p4, q4⟩ := (Rd_add f1 ft).err4 (by grind) (by grind)
  have e6 := mulb (a := fv m2 - fv m1) (d := 9/8) (x := y) (c := 1/6) d1 d2 y0 y1
  exact ⟨fr, by grind, by grind⟩

theorem vF_err {m1 m2 hue : UInt64} (f1 : FF m1) (f2 : FF m2) (fx : FF hue) (a1 : -(1/8) ≤ fv m1) (a2 : fv m1 ≤ 9/8) (b1 : -(1/8) ≤ fv m2) (b2 : fv m2 ≤ 9/8)
    (d1 : fv m2 - fv m1 ≤ 9/8) (d2 : -(9/8) ≤ fv m2 - fv m1) :
    FF (vF m1 m2 hue) ∧ fv (vF m1 m2 hue) - (fv m1 + (fv m2 - fv m1) * cvP (fv hue)) ≤ 16 / 2^53 ∧ (fv m1 + (fv m2 - fv m1) * cvP (fv hue)) - fv (vF m1 m2 hue) ≤ 16 / 2^53 := by
  obtain ⟨fh, h0, h1, k, f, hk, g0, g1, hf⟩ := mod1_spec fx
  have hc := cvP_of hk g0 g1
  unfold vF
  generalize mod1 hue = h at *
  have ef : fv h - f ≤ 1/2^54 ∧ f - fv h ≤ 1/2^54 := by
    rcases hf with z | ⟨_, z⟩
    · rw [z]; exact ⟨by grind, by grind⟩
    · exact (z.err1 (by grind) (by grind)).2
  have hcc : cv (fv h) - cv f ≤ 6 * (1/2^54) ∧ cv f - cv (fv h) ≤ 6 * (1/2^54) := by
    by_cases z : f ≤ fv h
    · have := cv_lip g0 z; grind
    · have := cv_lip h0 (show fv h ≤ f by grind); grind
  have key : FF (vT m1 m2 h) ∧ fv (vT m1 m2 h) - (fv m1 + (fv m2 - fv m1) * cv (fv h)) ≤ 12 / 2^53 ∧ (fv m1 + (fv m2 - fv m1) * cv (fv h)) - fv (vT m1 m2 h) ≤ 12 / 2^53 := by
    rw [vT_eq fh]
    by_cases z1 : fv h < 6004799503160661 / 2 ^ 55
    · rw [if_pos z1]
      have := ramp_err (y := fv h) f1 f2 fh a1 a2 b1 b2 d1 d2 h0 (by grind) h0 (by grind) (by grind) (by grind)
      have e : cv (fv h) = 6 * fv h := by unfold cv; grind
      rw [e]
      exact ⟨this.1, by grind, by grind⟩
    · rw [if_neg z1]
      by_cases z2 : fv h < 1/2
      · rw [if_pos z2]
        have e : 1 - cv (fv h) ≤ 1/2^53 ∧ 0 ≤ 1 - cv (fv h) := by unfold cv; grind
        have := mulb (a := fv m2 - fv m1) d1 d2 e.2 e.1
        exact ⟨f2, by grind, by grind⟩
      · rw [if_neg z2]
        by_cases z3 : fv h < 6004799503160661 / 2 ^ 53
        · rw [if_pos z3]
          obtain ⟨fs, s1, s2⟩ := (Rd_sub k23.1 fh).errq (by rw [k23.2]; grind) (by rw [k23.2]; grind)
          have s0 := (Rd_sub k23.1 fh).ge fs (f := 0) ⟨0, 0, by decide, by simp⟩ (by rw [k23.2]; grind)
          have s3 := (Rd_sub k23.1 fh).le fs (f := 6004799503160661 / 2 ^ 55) (by rw [← k6i.2]; exact Rp_fv k6i.1) (by rw [k23.2]; grind)
          rw [k23.2] at s1 s2
          have := ramp_err (y := 2/3 - fv h) f1 f2 fs a1 a2 b1 b2 d1 d2 s0 (by grind) (by grind) (by grind) (by grind) (by grind)
          have e : cv (fv h) = 6 * (2/3 - fv h) := by unfold cv; grind
          rw [e]
          exact ⟨this.1, by grind, by grind⟩
        · rw [if_neg z3]
          have e : cv (fv h) ≤ 6/2^53 ∧ 0 ≤ cv (fv h) := by unfold cv; grind
          have := mulb (a := fv m2 - fv m1) d1 d2 e.2 e.1
          exact ⟨f1, by grind, by grind⟩
  rw [hc]
  have e5 : (fv m2 - fv m1) * (cv (fv h) - cv f) ≤ 9/8 * (6 * (1/2^54)) ∧ -(9/8 * (6 * (1/2^54))) ≤ (fv m2 - fv m1) * (cv (fv h) - cv f) := by
    by_cases z : 0 ≤ cv (fv h) - cv f
    · exact mulb (d := 9/8) (by grind) (by grind) z hcc.1
    · have := mulb (a := fv m2 - fv m1) (x := cv f - cv (fv h)) (d := 9/8) (by grind) (by grind) (by grind) hcc.2
      exact ⟨by grind, by grind⟩
  exact ⟨key.1, by grind, by grind⟩
end Mine

end
section
open PySem PySem.Float64
namespace Mine

noncomputable def leF (x y : UInt64) : Bool := Float64.cmp x y == some .lt || Float64.cmp x y == some .eq
/-- hls_to_rgb -/
noncomputable def hlsM2 (l s : UInt64) : UInt64 := if leF l 4602678819172646912 = true then Float64.mul l (Float64.add 4607182418800017408 s) else Float64.sub (Float64.add l s) (Float64.mul l s)
noncomputable def hlsM1 (l s : UInt64) : UInt64 := Float64.sub (Float64.mul 4611686018427387904 l) (hlsM2 l s)
noncomputable def hlsC (ha l s : UInt64) : UInt64 := if (Float64.cmp s 0 == some .eq) = true then l else vF (hlsM1 l s) (hlsM2 l s) ha

noncomputable def nearE (l : Rat) : Rat := if l ≤ 1/2 then l else 1 - l
theorem nearE_bd {l : Rat} (h0 : 0 ≤ l) (h1 : l ≤ 1) : 0 ≤ nearE l ∧ nearE l ≤ 1/2 ∧ nearE l ≤ l ∧ nearE l ≤ 1 - l := by
  unfold nearE
  refine ⟨?_, ?_, ?_, ?_⟩ <;> grind

theorem hlsM_err {l s : UInt64} (fl : FF l) (fs : FF s) (l0 : 0 ≤ fv l) (l1 : fv l ≤ 1) (s0 : 0 ≤ fv s) (s1 : fv s ≤ 1) :
    (FF (hlsM2 l s) ∧ fv (hlsM2 l s) - (fv l + fv s * nearE (fv l)) ≤ 3 / 2^53 ∧ (fv l + fv s * nearE (fv l)) - fv (hlsM2 l s) ≤ 3 / 2^53) ∧
    (FF (hlsM1 l s) ∧ fv (hlsM1 l s) - (fv l - fv s * nearE (fv l)) ≤ 5 / 2^53 ∧ (fv l - fv s * nearE (fv l)) - fv (hlsM1 l s) ≤ 5 / 2^53) := by
  have b := mulb (a := fv s) (d := 1) s1 (by grind) l0 l1
  have nb := nearE_bd l0 l1
  have b' := mulb (a := fv s) (d := 1) s1 (by grind) nb.1 nb.2.1
  have b0 := Rat.mul_nonneg s0 nb.1
  have b3 := Rat.mul_le_mul_of_nonneg_right s1 nb.1
  have key : FF (hlsM2 l s) ∧ fv (hlsM2 l s) - (fv l + fv s * nearE (fv l)) ≤ 3 / 2^53 ∧ (fv l + fv s * nearE (fv l)) - fv (hlsM2 l s) ≤ 3 / 2^53 := by
    unfold hlsM2 leF
    rw [cmp_le fl kh.1, kh.2]
    by_cases z : fv l ≤ 1/2
    · rw [if_pos (by simpa using z)]
      have e : nearE (fv l) = fv l := by unfold nearE; rw [if_pos z]
      rw [e]
      obtain ⟨f1, p1, q1⟩ := (Rd_add fv1.1 fs).err2 (by rw [fv1.2]; grind) (by rw [fv1.2]; grind)
      rw [fv1.2] at p1 q1
      generalize Float64.add 4607182418800017408 s = a at *
      have c := mulc p1 q1 l0 z (by decide +kernel)
      obtain ⟨f2, p2, q2⟩ := (Rd_mul fl f1).err2 (by grind) (by grind)
      exact ⟨f2, by grind, by grind⟩
    · rw [if_neg (by simpa using z)]
      have e : nearE (fv l) = 1 - fv l := by unfold nearE; rw [if_neg z]
      rw [e] at b' ⊢
      obtain ⟨f1, p1, q1⟩ := (Rd_add fl fs).err2 (by grind) (by grind)
      obtain ⟨f2, p2, q2⟩ := (Rd_mul fl fs).err1 (by grind) (by grind)
      obtain ⟨f3, p3, q3⟩ := (Rd_sub f1 f2).err2 (by grind) (by grind)
      exact ⟨f3, by grind, by grind⟩
  refine ⟨key, ?_⟩
  obtain ⟨f0, p0, q0⟩ := key
  unfold hlsM1
  generalize hlsM2 l s = m2 at *
  have e2 := Rd_mul k2.1 fl
  rw [k2.2] at e2
  obtain ⟨f1, p1, q1⟩ := e2.err2 (by grind) (by grind)
  obtain ⟨f2, p2, q2⟩ := (Rd_sub f1 f0).err2 (by grind) (by grind)
  exact ⟨f2, by grind, by grind⟩

/-- a component of hls_to_rgb -/
theorem hlsC_err {ha l s : UInt64} {x E : Rat} (fh : FF ha) (fl : FF l) (fs : FF s) (l0 : 0 ≤ fv l) (l1 : fv l ≤ 1) (s0 : 0 ≤ fv s) (s1 : fv s ≤ 1) (e1 : fv ha - x ≤ E) (e2 : x - fv ha ≤ E) :
    FF (hlsC ha l s) ∧ fv (hlsC ha l s) - (fv l - fv s * nearE (fv l) + 2 * (fv s * nearE (fv l)) * cvP x) ≤ 24 / 2^53 + 6 * E ∧ (fv l - fv s * nearE (fv l) + 2 * (fv s * nearE (fv l)) * cvP x) - fv (hlsC ha l s) ≤ 24 / 2^53 + 6 * E := by
  have hE : 0 ≤ E := by grind
  unfold hlsC
  rw [cmp_eq fs fv0.1, fv0.2]
  by_cases z : fv s = 0
  · rw [if_pos (by simpa using z), z]
    exact ⟨fl, by grind, by grind⟩
  rw [if_neg (by simpa using z)]
  obtain ⟨⟨f2, p2, q2⟩, f1, p1, q1⟩ := hlsM_err fl fs l0 l1 s0 s1
  have nb := nearE_bd l0 l1
  have b0 := Rat.mul_nonneg s0 nb.1
  have b3 := Rat.mul_le_mul_of_nonneg_right s1 nb.1
  generalize hlsM2 l s = m2 at *
  generalize hlsM1 l s = m1 at *
  obtain ⟨fv', p3, q3⟩ := vF_err (hue := ha) f1 f2 fh (by grind) (by grind) (by grind) (by grind) (by grind) (by grind)
  have lip := cvP_lip e1 e2
  have cb := cvP_bd (fv ha)
  have cb' := cvP_bd x
  generalize fv s * nearE (fv l) = w at *
  have m1' := mulc (a := fv m1) (b := fv l - w) (x := 1 - cvP (fv ha)) (c := 1) p1 q1 (by grind) (by grind) (by decide +kernel)
  have m2' := mulc (a := fv m2) (b := fv l + w) (x := cvP (fv ha)) (c := 1) p2 q2 (by grind) (by grind) (by decide +kernel)
  have m3 := mulc (a := cvP (fv ha)) (b := cvP x) (x := 2 * w) (c := 1) lip.1 lip.2 (by grind) (by grind) (by grind)
  exact ⟨fv', by grind, by grind⟩
end Mine

end
section
open PySem PySem.Float64
namespace Mine

theorem mx_fv {a b : UInt64} (ha : FF a) (hb : FF b) : FF (mx a b) ∧ fv (mx a b) = if fv a < fv b then fv b else fv a := by
  unfold mx
  rw [cmp_lt ha hb]
  by_cases z : fv a < fv b <;> simp [z] <;> assumption
theorem mn_fv {a b : UInt64} (ha : FF a) (hb : FF b) : FF (mn a b) ∧ fv (mn a b) = if fv b < fv a then fv b else fv a := by
  unfold mn
  rw [cmp_lt hb ha]
  by_cases z : fv b < fv a <;> simp [z] <;> assumption

noncomputable def mx3 (r g b : UInt64) : UInt64 := mx (mx r g) b
noncomputable def mn3 (r g b : UInt64) : UInt64 := mn (mn r g) b
theorem mx3_fv {r g b : UInt64} (hr : FF r) (hg : FF g) (hb : FF b) : FF (mx3 r g b) ∧ fv r ≤ fv (mx3 r g b) ∧ fv g ≤ fv (mx3 r g b) ∧ fv b ≤ fv (mx3 r g b) ∧ (fv (mx3 r g b) = fv r ∨ fv (mx3 r g b) = fv g ∨ fv (mx3 r g b) = fv b) := by
  obtain ⟨f1, e1⟩ := mx_fv hr hg
  obtain ⟨f2, e2⟩ := mx_fv f1 hb
  unfold mx3
  rw [e1] at e2
  rw [e2]
  exact ⟨f2, by grind, by grind, by grind, by grind⟩
theorem mn3_fv {r g b : UInt64} (hr : FF r) (hg : FF g) (hb : FF b) : FF (mn3 r g b) ∧ fv (mn3 r g b) ≤ fv r ∧ fv (mn3 r g b) ≤ fv g ∧ fv (mn3 r g b) ≤ fv b ∧ (fv (mn3 r g b) = fv r ∨ fv (mn3 r g b) = fv g ∨ fv (mn3 r g b) = fv b) := by
  obtain ⟨f1, e1⟩ := mn_fv hr hg
  obtain ⟨f2, e2⟩ := mn_fv f1 hb
  unfold mn3
  rw [e1] at e2
  rw [e2]
  exact ⟨f2, by grind, by grind, by grind, by grind⟩

/-- (maxc - r) / rangec -/
noncomputable def rcF (M N r : UInt64) : UInt64 := Float64.div (Float64.sub M r) (Float64.sub M N)
theorem Rp0 : Rp 0 := ⟨0, 0, by decide, by simp⟩
theorem big900 : (2 : Rat) ≤ 2 ^ 900 := by have := pow_mono2 (a := 1) (b := 900) (by decide); simpa using this

theorem range_pos {M N : UInt64} (fM : FF M) (fN : FF N) (h : fv N < fv M) (hb : fv M - fv N ≤ 2) : FF (Float64.sub M N) ∧ 0 < fv (Float64.sub M N) ∧ fv (Float64.sub M N) - (fv M - fv N) ≤ (fv M - fv N) / 2^53 ∧ (fv M - fv N) - fv (Float64.sub M N) ≤ (fv M - fv N) / 2^53 := by
  have b9 := big900
  obtain ⟨f, p, q⟩ := rel_sub fM fN (by grind) (by grind)
  exact ⟨f, by grind, p, q⟩

theorem rc_err {M N r : UInt64} (fM : FF M) (fN : FF N) (fr : FF r) (h1 : fv N ≤ fv r) (h2 : fv r ≤ fv M) (h : fv N < fv M) (hb : fv M - fv N ≤ 2) :
    ∃ a : Rat, a * (fv M - fv N) = fv M - fv r ∧ 0 ≤ a ∧ a ≤ 1 ∧ FF (rcF M N r) ∧ fv (rcF M N r) - a ≤ 3 / 2^53 ∧ a - fv (rcF M N r) ≤ 3 / 2^53 ∧ 0 ≤ fv (rcF M N r) ∧ fv (rcF M N r) ≤ 1 := by
  have b9 := big900
  obtain ⟨fP, P0, p1, q1⟩ := range_pos fM fN h hb
  obtain ⟨fX, p2, q2⟩ := rel_sub fM fr h2 (by grind)
  have X0 := (Rd_sub fM fr).ge fX Rp0 (by grind)
  have XP := (Rd_sub fM fr).mono (Rd_sub fM fN) fX fP (by grind)
  unfold rcF
  generalize Float64.sub M N = P at *
  generalize Float64.sub M r = X at *
  have hne : fv P ≠ 0 := by grind
  have hd := Rd_div fX fP hne
  have eq : fv X / fv P * fv P = fv X := Rat.div_mul_cancel hne
  generalize fv X / fv P = q at *
  have ρ0 : 0 < fv M - fv N := by grind
  have q0 : 0 ≤ q := Rat.le_of_mul_le_mul_right (c := fv P) (by grind) P0
  have q1' : q ≤ 1 := Rat.le_of_mul_le_mul_right (c := fv P) (by grind) P0
  obtain ⟨fr', p3, q3⟩ := hd.err1 (by grind) q1'
  have r0 := hd.ge fr' Rp0 q0
  have r1 := hd.le fr' one_Rp q1'
  have hρ : fv M - fv N ≠ 0 := by grind
  have ea : (fv M - fv r) / (fv M - fv N) * (fv M - fv N) = fv M - fv r := Rat.div_mul_cancel hρ
  generalize (fv M - fv r) / (fv M - fv N) = a at *
  have a0 : 0 ≤ a := Rat.le_of_mul_le_mul_right (c := fv M - fv N) (by grind) ρ0
  have a1 : a ≤ 1 := Rat.le_of_mul_le_mul_right (c := fv M - fv N) (by grind) ρ0
  refine ⟨a, ea, a0, a1, fr', ?_, ?_, r0, r1⟩
  · have c := mulc (a := fv P) (b := fv M - fv N) (x := q) (c := 1) p1 q1 q0 q1' (by grind)
    apply Rat.le_of_mul_le_mul_right (c := fv M - fv N) _ ρ0
    have d := Rat.mul_le_mul_of_nonneg_right p3 (Rat.le_of_lt ρ0)
    generalize fv M - fv N = ρ at *
    grind
  · have c := mulc (a := fv P) (b := fv M - fv N) (x := q) (c := 1) p1 q1 q0 q1' (by grind)
    apply Rat.le_of_mul_le_mul_right (c := fv M - fv N) _ ρ0
    have d := Rat.mul_le_mul_of_nonneg_right q3 (Rat.le_of_lt ρ0)
    generalize fv M - fv N = ρ at *
    grind

/-- rgb_to_hls's hue -/
noncomputable def hue0 (M N r g b : UInt64) : UInt64 := if (Float64.cmp r M == some .eq) = true then Float64.sub (rcF M N b) (rcF M N g)
  else if (Float64.cmp g M == some .eq) = true then Float64.sub (Float64.add 4611686018427387904 (rcF M N r)) (rcF M N b)
  else Float64.sub (Float64.add 4616189618054758400 (rcF M N g)) (rcF M N r)
noncomputable def hueF (M N r g b : UInt64) : UInt64 := mod1 (Float64.div (hue0 M N r g b) 4618441417868443648)

end Mine

end
section
open PySem PySem.Float64
namespace Mine

noncomputable def litF (M N : UInt64) : UInt64 := Float64.div (Float64.add M N) 4611686018427387904
noncomputable def satF (M N : UInt64) : UInt64 := if leF (litF M N) 4602678819172646912 = true then Float64.div (Float64.sub M N) (Float64.add M N) else Float64.div (Float64.sub M N) (Float64.sub (Float64.sub 4611686018427387904 M) N)

theorem lit_err {M N : UInt64} (fM : FF M) (fN : FF N) (n0 : 0 ≤ fv N) (h : fv N ≤ fv M) (m1 : fv M ≤ 1) :
    FF (litF M N) ∧ fv (litF M N) - (fv M + fv N) / 2 ≤ 1 / 2^53 ∧ (fv M + fv N) / 2 - fv (litF M N) ≤ 1 / 2^53 ∧ fv N ≤ fv (litF M N) ∧ fv (litF M N) ≤ fv M := by
  have two : Rp 2 := by rw [← k2.2]; exact Rp_fv k2.1
  obtain ⟨f1, p1, q1⟩ := (Rd_add fM fN).err2 (by grind) (by grind)
  have hM2 := Rd_mul k2.1 fM
  have hN2 := Rd_mul k2.1 fN
  rw [k2.2] at hM2 hN2
  have s0 := (Rd_add fM fN).ge f1 Rp0 (by grind)
  have s2 := (Rd_add fM fN).le f1 two (by grind)
  unfold litF
  have hd := Rd_div f1 k2.1 (by rw [k2.2]; decide)
  rw [k2.2] at hd
  obtain ⟨f2, p2, q2⟩ := hd.err1 (by grind) (by grind)
  have dbl : ∀ f, Rp f → Rp (2 * f) := fun f ⟨m, k, hm, e⟩ => ⟨m, k + 1, hm, by rw [Nat.pow_succ, Rat.natCast_mul]; show _ = (m : Rat) * (((2 ^ k : Nat) : Rat) * 2); grind⟩
  have a1 := (Rd_add fM fN).ge f1 (dbl _ (Rp_fv fN)) (by grind)
  have a2 := (Rd_add fM fN).le f1 (dbl _ (Rp_fv fM)) (by grind)
  have b1 := hd.ge f2 (Rp_fv fN) (by grind)
  have b2 := hd.le f2 (Rp_fv fM) (by grind)
  exact ⟨f2, by grind, by grind, b1, b2⟩

theorem sat_den {M N : UInt64} (fM : FF M) (fN : FF N) (n0 : 0 ≤ fv N) (h : fv N < fv M) (m1 : fv M ≤ 1) :
    (FF (Float64.add M N) ∧ 0 < fv (Float64.add M N) ∧ fv (Float64.sub M N) ≤ fv (Float64.add M N) ∧ fv (Float64.add M N) ≤ 2) ∧
    (FF (Float64.sub (Float64.sub 4611686018427387904 M) N) ∧ 0 < fv (Float64.sub (Float64.sub 4611686018427387904 M) N) ∧ fv (Float64.sub M N) ≤ fv (Float64.sub (Float64.sub 4611686018427387904 M) N) ∧ fv (Float64.sub (Float64.sub 4611686018427387904 M) N) ≤ 2 ∧
      fv (Float64.sub (Float64.sub 4611686018427387904 M) N) - (2 - fv M - fv N) ≤ 2 / 2^53 ∧ (2 - fv M - fv N) - fv (Float64.sub (Float64.sub 4611686018427387904 M) N) ≤ 2 / 2^53) := by
  have two : Rp 2 := by rw [← k2.2]; exact Rp_fv k2.1
  obtain ⟨fP, P0, p1, q1⟩ := range_pos fM fN h (by grind)
  refine ⟨?_, ?_⟩
  · obtain ⟨f1, p1, q1⟩ := (Rd_add fM fN).err2 (by grind) (by grind)
    have a := (Rd_sub fM fN).mono (Rd_add fM fN) fP f1 (by grind)
    exact ⟨f1, by grind, a, (Rd_add fM fN).le f1 two (by grind)⟩
  · have h2 := Rd_sub k2.1 fM
    rw [k2.2] at h2
    obtain ⟨f1, p1, q1⟩ := h2.err2 (by grind) (by grind)
    have g1 := h2.ge f1 one_Rp (by grind)
    have g2 := h2.le f1 two (by grind)
    have h3 := Rd_sub f1 fN
    generalize Float64.sub 4611686018427387904 M = X at *
    obtain ⟨f3, p3, q3⟩ := h3.err2 (by grind) (by grind)
    have a := (Rd_sub fM fN).mono h3 fP f3 (by grind)
    exact ⟨f3, by grind, a, h3.le f3 two (by grind), by grind, by grind⟩

theorem third_err {h : UInt64} (f : FF h) (h0 : 0 ≤ fv h) (h1 : fv h ≤ 1) :
    (FF (Float64.add h 4599676419421066581) ∧ fv (Float64.add h 4599676419421066581) - (fv h + 1/3) ≤ 2 / 2^53 ∧ (fv h + 1/3) - fv (Float64.add h 4599676419421066581) ≤ 2 / 2^53) ∧
    (FF (Float64.sub h 4599676419421066581) ∧ fv (Float64.sub h 4599676419421066581) - (fv h - 1/3) ≤ 2 / 2^53 ∧ (fv h - 1/3) - fv (Float64.sub h 4599676419421066581) ≤ 2 / 2^53) := by
  have a := Rd_add f k3i.1
  have b := Rd_sub f k3i.1
  rw [k3i.2] at a b
  obtain ⟨f1, p1, q1⟩ := a.err2 (by grind) (by grind)
  obtain ⟨f2, p2, q2⟩ := b.err2 (by grind) (by grind)
  exact ⟨⟨f1, by grind, by grind⟩, f2, by grind, by grind⟩

end Mine

end
section
open PySem PySem.Float64
namespace Mine

/-- rgb_to_hls -/
noncomputable def greyF (r g b : UInt64) : Bool := Float64.cmp (mn3 r g b) (mx3 r g b) == some .eq
noncomputable def toH (r g b : UInt64) : UInt64 := if greyF r g b = true then 0 else hueF (mx3 r g b) (mn3 r g b) r g b
noncomputable def toL (r g b : UInt64) : UInt64 := litF (mx3 r g b) (mn3 r g b)
noncomputable def toS (r g b : UInt64) : UInt64 := if greyF r g b = true then 0 else satF (mx3 r g b) (mn3 r g b)
noncomputable def HlsOk (r g b : UInt64) : Prop := greyF r g b = false → Float64.isZero (Float64.sub (mx3 r g b) (mn3 r g b)) = false ∧
  (leF (toL r g b) 4602678819172646912 = true → Float64.isZero (Float64.add (mx3 r g b) (mn3 r g b)) = false) ∧
  (leF (toL r g b) 4602678819172646912 = false → Float64.isZero (Float64.sub (Float64.sub 4611686018427387904 (mx3 r g b)) (mn3 r g b)) = false)
theorem grey_fv {r g b : UInt64} (fr : FF r) (fg : FF g) (fb : FF b) : greyF r g b = decide (fv (mn3 r g b) = fv (mx3 r g b)) := by
  unfold greyF; exact cmp_eq (mn3_fv fr fg fb).1 (mx3_fv fr fg fb).1
theorem nz {x : UInt64} (f : FF x) (h : 0 < fv x) : Float64.isZero x = false := by rw [isZero_fv f]; exact decide_eq_false (by grind)
theorem HlsOk.of {r g b : UInt64} (fr : FF r) (fg : FF g) (fb : FF b) (r0 : 0 ≤ fv r) (r1 : fv r ≤ 1) (g0 : 0 ≤ fv g) (g1 : fv g ≤ 1) (b0 : 0 ≤ fv b) (b1 : fv b ≤ 1) : HlsOk r g b := fun h => by
  rw [grey_fv fr fg fb] at h
  have h := of_decide_eq_false h
  obtain ⟨fM, M1, M2, M3, M4⟩ := mx3_fv fr fg fb
  obtain ⟨fN, N1, N2, N3, N4⟩ := mn3_fv fr fg fb
  generalize mx3 r g b = M at *
  generalize mn3 r g b = N at *
  have hlt : fv N < fv M := by grind
  obtain ⟨fP, P0, p1, q1⟩ := range_pos fM fN hlt (by grind)
  obtain ⟨⟨fS, S0, PS, S2⟩, fD, D0, PD, D2, d1, d2⟩ := sat_den fM fN (by grind) hlt (by grind)
  exact ⟨nz fP P0, fun _ => nz fS S0, fun _ => nz fD D0⟩

end Mine
namespace Mine
end Mine

end
section
open PySem PySem.W PySem.Calls PyProof.Rows PySem.SeqAt
namespace Mine
section
variable {prog : Program} {w : World} {B : Shared} {A : Around} {env : Env} {σ : Store}

/-- an `if` both of whose ways set one variable -/
theorem WX_if_set {t : Expr} {a b : List Stmt} {x : Str} {pos : Pos} {c : Bool} {va vb : UInt64} {Q : Out → Store → Prop} (ht : WT prog w B A env σ t (fun c' => c' = c))
    (ha : c = true → WS prog w B A env σ a (fun o σ' => o = .next ∧ σ' = σ.set x (.dat (.flt va)))) (hb : c = false → WS prog w B A env σ b (fun o σ' => o = .next ∧ σ' = σ.set x (.dat (.flt vb))))
    (q : Q .next (σ.set x (.dat (.flt (if c = true then va else vb))))) : WX prog w B A env σ (.If t a b pos) Q := by
  refine WX_if (WT.mono ht fun c' hc => ?_)
  subst hc
  cases c' with
  | true =>
    simp only [if_true] at q ⊢
    exact WS.mono (ha rfl) (fun o σ' ⟨e1, e2⟩ => by subst e1; subst e2; exact q)
  | false =>
    simp only [Bool.false_eq_true, if_false] at q ⊢
    exact WS.mono (hb rfl) (fun o σ' ⟨e1, e2⟩ => by subst e1; subst e2; exact q)

noncomputable def isFlt (c : UInt64) : Option (Option Value) → Bool
  | some (some (.float x t)) => x == c && t != 0
  | _ => false
/-- a global that is a float -/
theorem mg_flt {K : Frag} {h : Heap} {mg : Str → Option Value} {n : Str} {c : UInt64} (X : K.In h) (G : h.Ns mainGlobals mg) (e : isFlt c (nsIn K mainGlobals n) = true) : ∃ t, mg n = some (.float c t) ∧ t ≠ 0 := by
  cases hn : nsIn K mainGlobals n with
  | none => rw [hn] at e; cases e
  | some o =>
    cases o with
    | none => rw [hn] at e; cases e
    | some v =>
      rw [hn] at e
      cases v with
      | float x t =>
        simp only [isFlt, Bool.and_eq_true, beq_iff_eq, bne_iff_ne] at e
        obtain ⟨rfl, ht⟩ := e
        exact ⟨t, mg_of X G hn, ht⟩
      | _ => cases e
end
end Mine

end
section
open PySem PySem.W PySem.Calls PyProof.Rows PySem.SeqAt
namespace Mine
section
variable {prog : Program} {w : World} {B : Shared} {A : Around} {env : Env} {σ : Store}

theorem Reps.rev {h : Heap} {X : List Addr} : ∀ {ds : List D} {vs : List Value}, Reps h X ds vs → Reps h X ds.reverse vs.reverse
  | [], _, r => by rw [r]; exact rfl
  | d :: ds, _, ⟨v, vs', e, r, rs⟩ => by
    subst e
    rw [List.reverse_cons, List.reverse_cons]
    exact Reps.append (Reps.rev rs) (Reps.one r)

theorem bind_order {Hd O : List Addr} : ∀ (xs : List Str) (ds : List D) (vs : List Value) (σ : Store) (s : Shared), (∀ x ∈ xs, canStore env x) → ds.length = xs.length → Inv B O Hd env σ s → Reps s.heap (O ++ Hd) ds vs →
    wpAny (model prog w) A (assignInOrder (xs.map fun n => bindName env n) vs) (fun _ s' => Ext O s O s' ∧ Inv B O Hd env (setAll σ xs ds) s') no s
  | [], [], vs, σ, s, _, _, I, rs => wpAny_pure ⟨Ext.refl _ _, I⟩
  | [], d :: ds, vs, σ, s, _, hd, _, _ => by simp at hd
  | x :: xs, [], vs, σ, s, _, hd, _, _ => by simp at hd
  | x :: xs, d :: ds, vs, σ, s, hc, hd, I, ⟨v, vs', e, r, rs⟩ => by
    subst e
    show wpAny _ _ (do holding vs' (bindName env x v); assignInOrder (xs.map fun n => bindName env n) vs') _ _ s
    refine wpAny_bind (wpAny_holding (bindName_ (I.store (hc x (by simp)) r fun s₁ x₁ i₁ => ?_)))
    have rs' : Reps s₁.heap (O ++ Hd) ds vs' := rs.mono fun a o ha e => ⟨x₁.keep a o (fun q => ha (List.mem_append_left _ q)) e, ha⟩
    refine wpAny_mono (bind_order xs ds vs' _ s₁ (fun y hy => hc y (by simp [hy])) (by simpa using hd) i₁ rs') (fun _ s' ⟨x₂, i₂⟩ => ⟨x₁.trans x₂, i₂⟩) fun _ _ f => f

/-- `x, y = (e, f)`: the last name is stored first -/
theorem WX_assign_swap (names : List Str) {elts : List Expr} {k : Nat} {tpos pos : Pos} {value : Expr} {Q : Out → Store → Prop} (hA : A.handled = none) (hc : ∀ x ∈ names, canStore env x)
    (h : WE prog w B A env σ value (fun d => ∃ ds, d = .tup ds ∧ ds.length = names.length ∧ Q .next (setAll σ names.reverse ds.reverse)))
    (hs : swapsWithSole [.Tuple elts k tpos] value pos.line env = pure false := by rfl)
    (hw : swappedStores [.Tuple elts k tpos] value env = pure (some names) := by rfl) : WX prog w B A env σ (.Assign [.Tuple elts k tpos] value pos) Q := fun O Hd s I => by
  refine Assign_Tuple_swapped (wpAny_mono (h O Hd s I) (fun v s₁ ⟨k, d, r, ds, hd, hl, q⟩ => ?_) fun _ _ f => f) hs hw
  subst hd
  refine wpAny_mono (unpack_tup hA hl (I.keeps k).lives r) (fun vs s₂ ⟨k₂, rs⟩ => ?_) fun _ _ f => f
  exact wpAny_mono (bind_order names.reverse ds.reverse vs.reverse σ s₂ (fun x hx => hc x (List.mem_reverse.mp hx)) (by simpa using hl) ((I.keeps k).keeps k₂) rs.rev)
    (fun _ s' ⟨x', i'⟩ => ⟨O, .next, _, (Ext.of (k.trans k₂)).trans x', i', rfl, q⟩) fun _ _ f => f
end
end Mine

end
section
open PySem PySem.W PySem.Calls PyProof.Rows PySem.SeqAt
namespace Mine
section
variable {prog : Program} {w : World} {B : Shared} {A : Around} {env : Env} {σ : Store}

end
end Mine

end
section
open PySem PySem.W PySem.Calls PyProof.Rows PySem.SeqAt
namespace Mine
section
variable {prog : Program} {w : World} {B : Shared} {A : Around} {env : Env} {σ : Store}

end
end Mine

end
section
open PySem PySem.W PySem.Calls PyProof.Rows PySem.SeqAt
namespace Mine
section
variable {prog : Program} {w : World} {B : Shared} {A : Around} {env : Env} {σ : Store}

/-- t[a:] of a tuple -/
theorem WE_from {value lo : Expr} {p pos : Pos} {Q : D → Prop}
    (h : WE prog w B A env σ value (fun a => WE prog w B A env σ lo (fun b => ∃ (ds : List D) (n : Nat), a = .tup ds ∧ b = .int n ∧ 1 ≤ n ∧ n ≤ ds.length ∧ ds.length ≤ 2 ^ 20 ∧ Q (.tup (ds.drop n))))) :
    WE prog w B A env σ (.Subscript value (.Slice (some lo) none none p) pos) Q := fun O Hd s I => by
  refine Subscript_ (wpAny_mono (h O Hd s I) (fun va s₁ ⟨k₁, a, ra, h₁⟩ => ?_) fun _ _ f => f.elim)
  have I₁ := I.keeps k₁
  show wpAny _ _ (do
    let l ← valueOrNone (evalOpt (some lo) env)
    let u ← holding [l] (valueOrNone (evalOpt none env))
    let s ← holding [l, u] (valueOrNone (evalOpt none env))
    newFields "slice" [l, u, s]) _ _ s₁
  have hp : WP prog w B A env σ (some lo) (fun i => ∃ (ds : List D) (n : Nat), a = .tup ds ∧ i = some (n : Int) ∧ 1 ≤ n ∧ n ≤ ds.length ∧ ds.length ≤ 2 ^ 20 ∧ Q (.tup (ds.drop n))) :=
    WP_some (WE.mono h₁ fun d ⟨ds, n, h1, h2, h3⟩ => ⟨n, h2, ds, n, h1, rfl, h3⟩)
  refine wpAny_bind (wpAny_mono (WP.wp hp I₁) (fun vl s₂ ⟨k₂, li, pl, ds, n, e1, e2, h1, hn, hsz, q⟩ => ?_) fun _ _ f => f.elim)
  have I₂ := I₁.keeps k₂
  subst e1 e2
  refine wpAny_bind (wpAny_holding (wpAny_pure ?_))
  refine wpAny_bind (wpAny_holding (wpAny_pure ?_))
  refine wpAny_newObj_type (T := "slice") (data := .fields #[vl, .none, .none]) ?_ (by simp [sizeOk, sizeLine])
  obtain ⟨a, vs, rfl, ha, hl, hr⟩ := (ra.keeps k₂.get).tup_inv
  have hl' : PTup (s₂.heap.push { cls := .type "slice", data := .fields #[vl, .none, .none] }) a vs.toArray := isTuple_at hl fun o e => Heap.get?_push_of_some _ e
  obtain ⟨m, ho⟩ := id hl'
  cases pl
  refine tail_any (T := "tuple") (ops := [.ref s₂.heap.objs.size, .ref a]) (Heap.IsTuple.typeIs (s := { s₂ with heap := s₂.heap.push { cls := .type "slice", data := .fields #[_, .none, .none] } }) hl'.isTuple) isTup_getitem_lookup
    (getItem_tuple_from (s := { s₂ with heap := s₂.heap.push { cls := .type "slice", data := .fields #[_, .none, .none] } }) ⟨_, ho, rfl, _, rfl⟩ (Heap.IsSliceOf.new ..) h1 (by simp [hr.length]; exact hn) ?_ (by simp [sizeLine, hr.length]; omega)) (by with_unfolding_all rfl)
  rename_i tk _
  have L4 : Live (O ++ Hd) { s₂ with heap := s₂.heap.push { cls := .type "slice", data := .fields #[.int n tk, .none, .none] } } := I₂.lives.keeps (Kp.push _ _)
  refine ⟨(k₁.trans k₂).trans ((Kp.push _ _).trans (Kp.push _ _)), _, ?_, q⟩
  exact rep_new_tuple (s := { s₂ with heap := s₂.heap.push { cls := .type "slice", data := .fields #[.int n tk, .none, .none] } }) L4 ((hr.drop n).keeps fun _ _ e => Heap.get?_push_of_some _ e)
end
end Mine
namespace Mine
theorem fold_lst {es : List Expr} {p : Pos} {env : Env} {x : Value} : foldedSetIterable (.List es p) env x = pure x := rfl
theorem fold_nam {n : Str} {p : Pos} {env : Env} {x : Value} : foldedSetIterable (.Name n p) env x = pure x := rfl
theorem fold_cal {f : Expr} {as : List Expr} {ks : List Keyword} {p : Pos} {env : Env} {x : Value} : foldedSetIterable (.Call f as ks p) env x = pure x := rfl
end Mine

end
section
open PySem PySem.W PySem.Calls PyProof.Rows PySem.SeqAt
namespace Mine
section
variable {prog : Program} {w : World} {B : Shared} {A : Around} {env : Env} {σ : Store}

/-- type(x) -/
theorem WC_type_f {x : UInt64} {Q : D → Prop} (q : Q (.typ "float")) : WC prog w B A (.type "type") [.flt x] Q := fun X s vals g r => by
  obtain ⟨v, r₁, rfl, h1, h2⟩ := r
  cases h2
  obtain ⟨t, rfl, ht⟩ := h1.flt_inv
  exact call_type_of (Tx := "float") rfl (by decide) ⟨Kp.refl _, _, rep_typ, q⟩
theorem WC_type_t {ds : List D} {Q : D → Prop} (q : Q (.typ "tuple")) : WC prog w B A (.type "type") [.tup ds] Q := fun X s vals g r => by
  obtain ⟨v, r₁, rfl, h1, h2⟩ := r
  cases h2
  obtain ⟨a, vs, rfl, ha, hl, hr⟩ := h1.tup_inv
  exact call_type_of (Tx := "tuple") hl.isTuple.typeIs (by decide) ⟨Kp.refl _, _, rep_typ, q⟩
/-- `type(x) is not T` -/
theorem CO_isnot_typ {a : String} {Q : Bool → Prop} (q : Q false) : CO prog w B A .IsNot (.typ a) (.typ a) Q := fun X s va vb g ra rb => by
  obtain rfl := ra.typ_inv
  obtain rfl := rb.typ_inv
  exact wpAny_isNot_self (by rfl) ⟨Kp.refl _, _, rfl, q⟩

/-- f(*a list) -/
theorem WE_call_star {mg mb : Str → Option Value} (G : Base B mg mb) {x : Str} {p pos ps : Pos} {f : Addr} {fd : FuncData} (H : FnAt B mg x f fd) {e : Expr} {Q : D → Prop}
    (hx : env.kindOf x = some .globalImplicit) (h : WE prog w B A env σ e (fun d => ∃ ds, d = .lst ds ∧ ds.length ≤ 2 ^ 20 ∧ WC prog w B A (.ref f) ds Q))
    (hd : (x == ("__debug__" : Str)) = false := by decide) : WE prog w B A env σ (.Call (.Name x p) [.Starred e ps] [] pos) Q := fun O Hd s I => by
  refine Call_Name rfl (load_global G I hx H.at_ ?_ hd)
  obtain ⟨o, ho, hdat⟩ := H.obj
  have ht : backTo pos (starEach [.Starred e ps] env) = [(true, do let v ← eval e env; standAt pos; pure v)] := by rw [arm_starEach_Starred]; rfl
  rw [ht]
  refine callWith_function_kw (o := o) (fd := fd) ?_
  unfold evalArgs
  refine wpAny_bind (wpAny_bind (wpAny_mono (h O Hd s I) (fun v s₁ ⟨k₁, d, r, ds, e1, hsz, h₁⟩ => wpAny_bind (wpAny_standAt (wpAny_pure (wpAny_bind (wpAny_pure ?_))))) fun _ _ f => f.elim))
  subst e1
  obtain ⟨a, vs, rfl, ha, hl, hr⟩ := r.lst_inv
  obtain ⟨n, hol⟩ := id hl
  refine wpAny_holding ?_
  simp only [List.all_nil, if_true]
  refine wpAny_bind ?_
  refine wpAny_pure ?_
  refine wpAny_bind ?_
  refine wpAny_bind (notIter_list hl.isList _ ?_)
  simp only [Bool.false_eq_true, if_false]
  refine wpAny_holding (wpAny_collect_seq a (.inl rfl) hol rfl rfl (fun h' hk => ?_) (by simp [hr.length, sizeLine]; omega))
  refine wpAny_pure ?_
  have k₂ : Kp s₁ { s₁ with heap := h' } := Kp.mk' hk
  have I₂ := (I.keeps k₁).keeps k₂
  refine ⟨⟨(I₂.base _ _ ho).1, hdat⟩, ?_⟩
  exact wpAny_mono (h₁ _ _ vs I₂.grd (by simpa using hr.keeps hk)) (fun v s' ⟨k, d, r, q⟩ => ⟨(k₁.trans k₂).trans k, d, r, q⟩) fun _ _ f => f
end
end Mine

end
section
open PySem PySem.W PySem.Calls PyProof.Rows PySem.SeqAt
namespace Mine
section
variable {prog : Program} {w : World} {B : Shared} {A : Around} {env : Env} {σ : Store}

/-- [x] * 6 -/
theorem BO_mul_six {d : D} {Q : D → Prop} (q : Q (.lst [d, d, d, d, d, d])) : BO prog w A .Mult (.lst [d]) (.int 6) Q := fun X s va vb l ra rb => by
  obtain ⟨a, vs, rfl, ha, hl, hr⟩ := ra.lst_inv
  obtain ⟨v, r₁, rfl, h1, h2⟩ := hr
  cases h2
  obtain ⟨u, rfl⟩ := rb.int_inv
  obtain ⟨k, ho⟩ := hl
  refine wpAny_binaryOp_repeat_ref (T := "list") (U := "int") (by decide) ⟨_, ho, rfl⟩ (fun s' => typeIs_int s' 6 u) noFill_list_mul F.fills_int_mul F.slot_int_rmul repeat_list F.slot_int_index.lookup
    (call_meets F.slot_int_rmul (typeIs_int s 6 u) F.entry_int_rmul (F.args_int_rmul_2 _ _) (int___rmul___int_list 6 u a _ k)
      ⟨ho, rfl, ⟨_, ho, rfl⟩, call_meets F.slot_list_mul ⟨_, ho, rfl⟩ F.entry_list_mul (F.args_list_mul_2 _ _)
        (AutoListH.list___mul___list_int_3 a _ k 6 u (by simp [Builtin.List.listFitsIndex]) (by simp) (by simp [Builtin.List.listTooLong, sizeLine]))
        ⟨ho, ?_⟩⟩)
  refine ⟨Kp.push _ _, _, ?_, q⟩
  exact rep_new_list (vs := [v, v, v, v, v, v]) l ⟨_, _, rfl, h1, _, _, rfl, h1, _, _, rfl, h1, _, _, rfl, h1, _, _, rfl, h1, _, _, rfl, h1, rfl⟩

/-- a float that is one of two ints -/
theorem EqAt.ifl {s : Shared} {n : Int} {a : UInt64} {t u : Tok} : EqAt A s (.int n t) (.float a u) (Float64.cmpInt a n == some .eq) := fun prog w E Q hq => by
  unfold eqBool
  refine wpAny_holding ?_
  rw [if_neg (by simp)]
  have rc : wpAny (model prog w) A (richCompare .Eq (.int n t) (.float a u)) (fun v s' => v = .bool (Float64.cmpInt a n == some .eq) ∧ s' = s) E s := PyProof.Rows.eq_if (Q := fun v s' => v = .bool (Float64.cmpInt a n == some .eq) ∧ s' = s) ⟨rfl, rfl⟩
  refine wpAny_bind (wpAny_mono rc (fun v s' hv => ?_) fun _ _ e => e)
  obtain ⟨rfl, rfl⟩ := hv
  exact wpAny_truthy_bool hq
theorem CO_notin_f2 {x : UInt64} {a b : Int} {Q : Bool → Prop} (h : (Float64.cmpInt x a == some .eq) = true ∨ (Float64.cmpInt x b == some .eq) = true) (q : Q false) : CO prog w B A .NotIn (.flt x) (.lst [.int a, .int b]) Q := fun X s va vb g ra rb => by
  obtain ⟨t, rfl, ht⟩ := ra.flt_inv
  obtain ⟨l, vs, rfl, ha, hl, hr⟩ := rb.lst_inv
  obtain ⟨v1, r₁, rfl, g1, v2, r₂, rfl, g2, g3⟩ := hr
  cases g3
  obtain ⟨u, rfl⟩ := g1.int_inv
  obtain ⟨y, rfl⟩ := g2.int_inv
  refine notIn_listAt (fun v => match v with | .int i _ => Float64.cmpInt x i == some .eq | _ => false) hl.isList (fun y hy => ?_) ?_
  · simp only [List.mem_toArray, List.mem_cons, List.not_mem_nil, or_false] at hy
    rcases hy with rfl | rfl <;> exact EqAt.ifl
  · refine ⟨Kp.refl _, _, rfl, ?_⟩
    simp only [List.any_toArray, List.any_cons, List.any_nil, Bool.or_false]
    rcases h with h | h <;> rw [h] <;> simpa using q

theorem best3 {v0 v1 v2 v : Value} {bt : Value → Value → Bool} (h : #[v0, v1, v2][argBest (fun i j => bt (#[v0, v1, v2].getD i .none) (#[v0, v1, v2].getD j .none)) (#[v0, v1, v2].size - 1)]? = some v) :
    v = if bt v2 (if bt v1 v0 then v1 else v0) then v2 else (if bt v1 v0 then v1 else v0) := by
  cases h1 : bt v1 v0 with
  | true =>
    have a1 : argBest (fun i j => bt (#[v0, v1, v2].getD i .none) (#[v0, v1, v2].getD j .none)) 1 = 1 := if_pos h1
    cases h2 : bt v2 v1 with
    | true =>
      have a2 : argBest (fun i j => bt (#[v0, v1, v2].getD i .none) (#[v0, v1, v2].getD j .none)) 2 = 2 := if_pos (by rw [a1]; exact h2)
      have h : #[v0, v1, v2][2]? = some v := by rw [← a2]; exact h
      cases h; simp [h2]
    | false =>
      have a2 : argBest (fun i j => bt (#[v0, v1, v2].getD i .none) (#[v0, v1, v2].getD j .none)) 2 = 1 := (if_neg (by rw [a1]; exact Bool.eq_false_iff.mp h2)).trans a1
      have h : #[v0, v1, v2][1]? = some v := by rw [← a2]; exact h
      cases h; simp [h2]
  | false =>
    have a1 : argBest (fun i j => bt (#[v0, v1, v2].getD i .none) (#[v0, v1, v2].getD j .none)) 1 = 0 := if_neg (Bool.eq_false_iff.mp h1)
    cases h2 : bt v2 v0 with
    | true =>
      have a2 : argBest (fun i j => bt (#[v0, v1, v2].getD i .none) (#[v0, v1, v2].getD j .none)) 2 = 2 := if_pos (by rw [a1]; exact h2)
      have h : #[v0, v1, v2][2]? = some v := by rw [← a2]; exact h
      cases h; simp [h2]
    | false =>
      have a2 : argBest (fun i j => bt (#[v0, v1, v2].getD i .none) (#[v0, v1, v2].getD j .none)) 2 = 0 := (if_neg (by rw [a1]; exact Bool.eq_false_iff.mp h2)).trans a1
      have h : #[v0, v1, v2][0]? = some v := by rw [← a2]; exact h
      cases h; simp [h2]
theorem bestN {h : Heap} {X : List Addr} {a b c : Int} {t u x : Tok} {v : Value} {bt : Value → Value → Bool} {m : Int → Int → Int} (hm : ∀ (p q : Int) (y z : Tok), (if bt (.int q z) (.int p y) then Value.int q z else .int p y) = .int (m p q) (if bt (.int q z) (.int p y) then z else y))
    (hP : #[Value.int a t, .int b u, .int c x][argBest (fun i j => bt (#[Value.int a t, .int b u, .int c x].getD i .none) (#[Value.int a t, .int b u, .int c x].getD j .none)) (#[Value.int a t, .int b u, .int c x].size - 1)]? = some v) : Rep h X (.int (m (m a b) c)) v := by
  have e := best3 hP
  rw [hm, hm] at e
  exact ⟨_, e⟩
theorem bt_max (p q : Int) (y z : Tok) : (if PySem.Flt.ltV (.int p y) (.int q z) then Value.int q z else .int p y) = .int (max p q) (if PySem.Flt.ltV (.int p y) (.int q z) then z else y) := by
  show (if (decide (p < q)) = true then Value.int q z else .int p y) = .int _ (if (decide (p < q)) = true then z else y)
  by_cases h : p < q
  · rw [decide_eq_true h, if_pos rfl, if_pos rfl, Int.max_eq_right (Int.le_of_lt h)]
  · rw [decide_eq_false h, if_neg (by decide), if_neg (by decide), Int.max_eq_left (Int.not_lt.mp h)]
theorem bt_min (p q : Int) (y z : Tok) : (if PySem.Flt.ltV (.int q z) (.int p y) then Value.int q z else .int p y) = .int (min p q) (if PySem.Flt.ltV (.int q z) (.int p y) then z else y) := by
  show (if (decide (q < p)) = true then Value.int q z else .int p y) = .int _ (if (decide (q < p)) = true then z else y)
  by_cases h : q < p
  · rw [decide_eq_true h, if_pos rfl, if_pos rfl, Int.min_eq_right (Int.le_of_lt h)]
  · rw [decide_eq_false h, if_neg (by decide), if_neg (by decide), Int.min_eq_left (Int.not_lt.mp h)]
theorem WC_min_l3 {a b c : Int} {Q : D → Prop} (hA : A.handled = none) (q : Q (.int (min (min a b) c))) : WC prog w B A (.builtin "min") [.lst [.int a, .int b, .int c]] Q := fun X s vals g r => by
  obtain ⟨v, r₁, rfl, h1, h2⟩ := r
  cases h2
  obtain ⟨T, vs, rfl, hTX, hT, hr⟩ := h1.lst_inv
  obtain ⟨v1, r₁, rfl, g1, v2, r₂, rfl, g2, v3, r₃, rfl, g3, g4⟩ := hr
  cases g4
  obtain ⟨t, rfl⟩ := g1.int_inv; obtain ⟨u, rfl⟩ := g2.int_inv; obtain ⟨x, rfl⟩ := g3.int_inv
  obtain ⟨n, ho⟩ := id hT
  have hlt := Heap.lt_size ho
  refine wpAny_with_toks (n := s.toks) (Nat.le_refl _) (call_min_walk (wpAny_pyIter_list hT.isList ?_))
  refine ⟨_, [_, T], [_], _, _, _, _, rfl, Walks.list (A := A.in1) hA _ T (Nat.ne_of_lt hlt) #[.int a t, .int b u, .int c x],
    ⟨⟨_, Heap.get?_push_size _ rfl, rfl, rfl⟩, hT.isList.push _⟩, fun d hd => ?_, by simp, PySem.Flt.cmpOf_lt #[.int a t, .int b u, .int c x] (fun v hv => ?_), fun v h' tk hP hk htk => ?_⟩
  · show d < (s.heap.push _).objs.size
    rw [Heap.size_push]
    simp only [List.mem_cons, List.not_mem_nil, or_false] at hd
    rcases hd with rfl | rfl
    · exact Nat.lt_succ_self _
    · exact Nat.lt_succ_of_lt hlt
  · simp only [List.mem_toArray, List.mem_cons, List.not_mem_nil, or_false] at hv
    rcases hv with rfl | rfl | rfl <;> exact .int _ _
  · refine ⟨Kp.walked (fun d o e => hk d o (fun hm => ?_) (Heap.get?_push_of_some _ e)) htk, _, ?_, q⟩
    · simp only [List.mem_cons, List.not_mem_nil, or_false] at hm
      have := Heap.lt_size e; rw [hm] at this; exact Nat.lt_irrefl _ this
    · exact bestN (bt := fun x y => PySem.Flt.ltV x y) (m := min) bt_min hP
theorem WC_max_l3 {a b c : Int} {Q : D → Prop} (hA : A.handled = none) (q : Q (.int (max (max a b) c))) : WC prog w B A (.builtin "max") [.lst [.int a, .int b, .int c]] Q := fun X s vals g r => by
  obtain ⟨v, r₁, rfl, h1, h2⟩ := r
  cases h2
  obtain ⟨T, vs, rfl, hTX, hT, hr⟩ := h1.lst_inv
  obtain ⟨v1, r₁, rfl, g1, v2, r₂, rfl, g2, v3, r₃, rfl, g3, g4⟩ := hr
  cases g4
  obtain ⟨t, rfl⟩ := g1.int_inv; obtain ⟨u, rfl⟩ := g2.int_inv; obtain ⟨x, rfl⟩ := g3.int_inv
  obtain ⟨n, ho⟩ := id hT
  have hlt := Heap.lt_size ho
  refine wpAny_with_toks (n := s.toks) (Nat.le_refl _) (call_max_walk (wpAny_pyIter_list hT.isList ?_))
  refine ⟨_, [_, T], [_], _, _, _, _, rfl, Walks.list (A := A.in1) hA _ T (Nat.ne_of_lt hlt) #[.int a t, .int b u, .int c x],
    ⟨⟨_, Heap.get?_push_size _ rfl, rfl, rfl⟩, hT.isList.push _⟩, fun d hd => ?_, by simp, PySem.Flt.cmpOf_gt #[.int a t, .int b u, .int c x] (fun v hv => ?_), fun v h' tk hP hk htk => ?_⟩
  · show d < (s.heap.push _).objs.size
    rw [Heap.size_push]
    simp only [List.mem_cons, List.not_mem_nil, or_false] at hd
    rcases hd with rfl | rfl
    · exact Nat.lt_succ_self _
    · exact Nat.lt_succ_of_lt hlt
  · simp only [List.mem_toArray, List.mem_cons, List.not_mem_nil, or_false] at hv
    rcases hv with rfl | rfl | rfl <;> exact .int _ _
  · refine ⟨Kp.walked (fun d o e => hk d o (fun hm => ?_) (Heap.get?_push_of_some _ e)) htk, _, ?_, q⟩
    · simp only [List.mem_cons, List.not_mem_nil, or_false] at hm
      have := Heap.lt_size e; rw [hm] at this; exact Nat.lt_irrefl _ this
    · exact bestN (bt := fun x y => PySem.Flt.ltV y x) (m := max) bt_max hP
end
open PySem.Float64 in
theorem cmpInt_eq {x : UInt64} {i : Int} (hx : FF x) (h : fv x = i) : (Float64.cmpInt x i == some .eq) = true := by
  obtain ⟨a, m, e, h1⟩ := hx.dec
  rw [cmpInt_right h1]
  have : val x = i * 2 ^ 1074 := by
    have e := fv_S x
    rw [h] at e
    have : ((i * 2 ^ 1074 : Int) : Rat) = (val x : Rat) := by
      rw [← e, Rat.intCast_mul]; rfl
    exact (Rat.intCast_inj.mp this).symm
  rw [Int.compare_eq_eq.mpr this]; rfl
end Mine

end
section
open PySem PySem.W PySem.Calls PyProof.Rows PySem.SeqAt
namespace Mine
section
variable {prog : Program} {w : World} {B : Shared} {A : Around} {env : Env} {σ : Store}

/-- a table of whole numbers, written out -/
noncomputable def cInts : List Expr → Option (List Int)
  | [] => some []
  | .Constant (.int i) _ _ :: es => match cInts es with
    | some is => some (i :: is)
    | none => none
  | _ => none
noncomputable def cIntss : List Expr → Option (List (List Int))
  | [] => some []
  | .List es _ :: rest => match cInts es, cIntss rest with
    | some a, some b => if a.length ≤ 100 then some (a :: b) else none
    | _, _ => none
  | _ => none
theorem WEs_ints : ∀ (es : List Expr) (is : List Int) (Q : List D → Prop), cInts es = some is → Q (is.map D.int) → WEs prog w B A env σ es Q ∧ noStar es = true
  | [], is, Q, h, q => by cases h; exact ⟨q, rfl⟩
  | e :: es, is, Q, h, q => by
    unfold cInts at h
    split at h
    · rename_i h1; cases h1
    · rename_i i k p es' h1
      cases h1
      split at h
      · rename_i is' h2
        cases h
        obtain ⟨a, b⟩ := WEs_ints es is' (fun ds => Q (.int i :: ds)) h2 q
        exact ⟨WE_int a, b⟩
      · cases h
    · cases h
theorem WEs_intss : ∀ (es : List Expr) (is : List (List Int)) (Q : List D → Prop), cIntss es = some is → Q (is.map fun xs => .lst (xs.map D.int)) → WEs prog w B A env σ es Q ∧ noStar es = true
  | [], is, Q, h, q => by cases h; exact ⟨q, rfl⟩
  | e :: es, is, Q, h, q => by
    unfold cIntss at h
    split at h
    · rename_i h1; cases h1
    · rename_i es1 p es' h1
      cases h1
      split at h
      · rename_i a b h2 h3
        split at h
        · rename_i hsz
          cases h
          obtain ⟨x, y⟩ := WEs_intss es b (fun ds => Q (.lst (a.map D.int) :: ds)) h3 q
          obtain ⟨u, v⟩ := WEs_ints (prog := prog) (w := w) (B := B) (A := A) (env := env) (σ := σ) es1 a (fun ds => ds.length ≤ 2 ^ 24 ∧ WEs prog w B A env σ es (fun ds' => Q (.lst ds :: ds'))) h2 ⟨by simp; omega, x⟩
          exact ⟨WE_list u v, y⟩
        · cases h
      · cases h
    · cases h
theorem WE_table {es : List Expr} {is : List (List Int)} {pos : Pos} {Q : D → Prop} (h : cIntss es = some is) (hl : is.length ≤ 2 ^ 24) (q : Q (.lst (is.map fun xs => .lst (xs.map D.int)))) : WE prog w B A env σ (.List es pos) Q := by
  obtain ⟨a, b⟩ := WEs_intss (prog := prog) (w := w) (B := B) (A := A) (env := env) (σ := σ) es is (fun ds => ds.length ≤ 2 ^ 24 ∧ Q (.lst ds)) h ⟨by simpa using hl, q⟩
  exact WE_list a b
end
end Mine
namespace Mine
theorem swaps_sub {v i : Expr} {p : Pos} {t : Expr} {l : Nat} {env : Env} : swapsWith (.Subscript v i p) (some t) l env = pure false := rfl
theorem sub_bin {a b : Expr} {op : Operator} {p : Pos} {o i : Value} : subscripted (.BinOp a op b p) false o i = operate [o, i] (getItem o i) := rfl
end Mine

end
section
open PySem PySem.Float64
namespace Mine

end Mine

end
section
open PySem PySem.Float64
namespace Mine

/-- rgb_to_hsv -/
noncomputable def toV (r g b : UInt64) : UInt64 := mx3 r g b
noncomputable def toSV (r g b : UInt64) : UInt64 := if greyF r g b = true then 0 else Float64.div (Float64.sub (mx3 r g b) (mn3 r g b)) (mx3 r g b)
noncomputable def HsvOk (r g b : UInt64) : Prop := greyF r g b = false → Float64.isZero (Float64.sub (mx3 r g b) (mn3 r g b)) = false ∧ Float64.isZero (mx3 r g b) = false
theorem HsvOk.of {r g b : UInt64} (fr : FF r) (fg : FF g) (fb : FF b) (r0 : 0 ≤ fv r) (r1 : fv r ≤ 1) (g0 : 0 ≤ fv g) (g1 : fv g ≤ 1) (b0 : 0 ≤ fv b) (b1 : fv b ≤ 1) : HsvOk r g b := fun h => by
  rw [grey_fv fr fg fb] at h
  have h := of_decide_eq_false h
  obtain ⟨fM, M1, M2, M3, M4⟩ := mx3_fv fr fg fb
  obtain ⟨fN, N1, N2, N3, N4⟩ := mn3_fv fr fg fb
  generalize mx3 r g b = M at *
  generalize mn3 r g b = N at *
  have hlt : fv N < fv M := by grind
  obtain ⟨fP, P0, p1, q1⟩ := range_pos fM fN hlt (by grind)
  exact ⟨nz fP P0, nz fM (by grind)⟩

theorem dblRp {f : Rat} (h : Rp f) : Rp (2 * f) := by
  obtain ⟨m, k, hm, e⟩ := h
  exact ⟨m, k + 1, hm, by rw [Nat.pow_succ, Rat.natCast_mul]; show _ = (m : Rat) * (((2 ^ k : Nat) : Rat) * 2); grind⟩
end Mine

end
section
open PySem PySem.Float64
namespace Mine

/-- the three curves over a turn, by sixths -/
theorem sext (x : Rat) : ∃ (k : Int) (f : Rat), x = k + f ∧ 0 ≤ f ∧ f < 1 ∧
    ((f < 1/6 ∧ cvP (x + 1/3) = 1 ∧ cvP x = 6 * f ∧ cvP (x - 1/3) = 0) ∨
     (1/6 ≤ f ∧ f < 1/3 ∧ cvP (x + 1/3) = 2 - 6 * f ∧ cvP x = 1 ∧ cvP (x - 1/3) = 0) ∨
     (1/3 ≤ f ∧ f < 1/2 ∧ cvP (x + 1/3) = 0 ∧ cvP x = 1 ∧ cvP (x - 1/3) = 6 * f - 2) ∨
     (1/2 ≤ f ∧ f < 2/3 ∧ cvP (x + 1/3) = 0 ∧ cvP x = 4 - 6 * f ∧ cvP (x - 1/3) = 1) ∨
     (2/3 ≤ f ∧ f < 5/6 ∧ cvP (x + 1/3) = 6 * f - 4 ∧ cvP x = 0 ∧ cvP (x - 1/3) = 1) ∨
     (5/6 ≤ f ∧ cvP (x + 1/3) = 1 ∧ cvP x = 0 ∧ cvP (x - 1/3) = 6 - 6 * f)) := by
  have hb := frac_bd x
  refine ⟨x.floor, x - x.floor, by grind, hb.1, hb.2, ?_⟩
  generalize hf : x - x.floor = f at *
  generalize x.floor = k at *
  have hx : x = k + f := by grind
  have cG : cvP x = cv f := cvP_of hx hb.1 hb.2
  have cR1 : f < 2/3 → cvP (x + 1/3) = cv (f + 1/3) := fun h => cvP_of (k := k) (by grind) (by grind) (by grind)
  have cR2 : 2/3 ≤ f → cvP (x + 1/3) = cv (f - 2/3) := fun h => cvP_of (k := k + 1) (by rw [Rat.intCast_add, Rat.intCast_one]; grind) (by grind) (by grind)
  have cB1 : f < 1/3 → cvP (x - 1/3) = cv (f + 2/3) := fun h => cvP_of (k := k - 1) (by rw [Rat.intCast_sub, Rat.intCast_one]; grind) (by grind) (by grind)
  have cB2 : 1/3 ≤ f → cvP (x - 1/3) = cv (f - 1/3) := fun h => cvP_of (k := k) (by grind) (by grind) (by grind)
  by_cases h1 : f < 1/6
  · left
    rw [cG, cR1 (by grind), cB1 (by grind)]
    exact ⟨h1, by unfold cv; grind, by unfold cv; grind, by unfold cv; grind⟩
  right
  by_cases h2 : f < 1/3
  · left
    rw [cG, cR1 (by grind), cB1 (by grind)]
    exact ⟨by grind, h2, by unfold cv; grind, by unfold cv; grind, by unfold cv; grind⟩
  right
  by_cases h3 : f < 1/2
  · left
    rw [cG, cR1 (by grind), cB2 (by grind)]
    exact ⟨by grind, h3, by unfold cv; grind, by unfold cv; grind, by unfold cv; grind⟩
  right
  by_cases h4 : f < 2/3
  · left
    rw [cG, cR1 (by grind), cB2 (by grind)]
    exact ⟨by grind, h4, by unfold cv; grind, by unfold cv; grind, by unfold cv; grind⟩
  right
  by_cases h5 : f < 5/6
  · left
    rw [cG, cR2 (by grind), cB2 (by grind)]
    exact ⟨by grind, h5, by unfold cv; grind, by unfold cv; grind, by unfold cv; grind⟩
  right
  rw [cG, cR2 (by grind), cB2 (by grind)]
  exact ⟨by grind, by unfold cv; grind, by unfold cv; grind, by unfold cv; grind⟩

/-- one is at the top, one at the bottom -/
theorem sext_ends (x : Rat) : (cvP (x + 1/3) = 1 ∨ cvP x = 1 ∨ cvP (x - 1/3) = 1) ∧ (cvP (x + 1/3) = 0 ∨ cvP x = 0 ∨ cvP (x - 1/3) = 0) := by
  obtain ⟨k, f, h0, h1, h2, h⟩ := sext x
  rcases h with ⟨_, a, b, c⟩ | ⟨_, _, a, b, c⟩ | ⟨_, _, a, b, c⟩ | ⟨_, _, a, b, c⟩ | ⟨_, _, a, b, c⟩ | ⟨_, a, b, c⟩ <;> simp [a, b, c]

end Mine

end
section
open PySem PySem.Float64
namespace Mine

theorem ipos {a : Int} (h : 0 < a) : (0 : Rat) < a := Rat.intCast_pos.mpr h
theorem inn {a : Int} (h : 0 ≤ a) : (0 : Rat) ≤ a := by have := icast_le h; simpa using this

theorem nearE_int {top light : Int} {ρ : Rat} (ht : 0 < top) (h : ρ * top = light) : nearE ρ * top = ((min light (top - light) : Int) : Rat) := by
  have tp := ipos ht
  unfold nearE
  by_cases z : ρ ≤ 1/2
  · rw [if_pos z]
    have : 2 * light ≤ top := by
      have a := Rat.mul_le_mul_of_nonneg_right z (Rat.le_of_lt tp)
      have : ((2 * light : Int) : Rat) ≤ (top : Rat) := by rw [Rat.intCast_mul]; show (2 : Rat) * _ ≤ _; grind
      exact Rat.intCast_le_intCast.mp this
    rw [show min light (top - light) = light by omega, h]
  · rw [if_neg z]
    have : top ≤ 2 * light := by
      have a := Rat.mul_le_mul_of_nonneg_right (show 1/2 ≤ ρ by grind) (Rat.le_of_lt tp)
      have : (top : Rat) ≤ ((2 * light : Int) : Rat) := by rw [Rat.intCast_mul]; show _ ≤ (2 : Rat) * _; grind
      exact Rat.intCast_le_intCast.mp this
    rw [show min light (top - light) = top - light by omega, Rat.intCast_sub]; grind

/-- a hue of up to 64 turns -/
theorem hue_frac {hue turn : Int} (ht : 0 < turn) (h1 : -(64 * turn) ≤ hue) (h2 : hue ≤ 64 * turn) :
    FF (divI hue turn) ∧ (fv (divI hue turn) - (hue : Rat) / turn ≤ 32 / 2^53 ∧ (hue : Rat) / turn - fv (divI hue turn) ≤ 32 / 2^53) ∧
    (FF (Float64.add (divI hue turn) 4599676419421066581) ∧ fv (Float64.add (divI hue turn) 4599676419421066581) - ((hue : Rat) / turn + 1/3) ≤ 98 / 2^53 ∧ ((hue : Rat) / turn + 1/3) - fv (Float64.add (divI hue turn) 4599676419421066581) ≤ 98 / 2^53) ∧
    (FF (Float64.sub (divI hue turn) 4599676419421066581) ∧ fv (Float64.sub (divI hue turn) 4599676419421066581) - ((hue : Rat) / turn - 1/3) ≤ 98 / 2^53 ∧ ((hue : Rat) / turn - 1/3) - fv (Float64.sub (divI hue turn) 4599676419421066581) ≤ 98 / 2^53) := by
  have tp := ipos ht
  have e6 : (2 : Rat) ^ 6 = 64 := by decide +kernel
  have e7 : (2 : Rat) ^ 7 = 128 := by decide +kernel
  have hne : (turn : Rat) ≠ 0 := by grind
  have eq : (hue : Rat) / turn * turn = hue := Rat.div_mul_cancel hne
  have r := Rd_frac (a := hue) (b := turn) (by omega)
  generalize (hue : Rat) / turn = q at *
  have i1 := icast_le h1
  have i2 := icast_le h2
  rw [Rat.intCast_neg, Rat.intCast_mul] at i1
  rw [Rat.intCast_mul] at i2
  have b1 : -64 ≤ q := Rat.le_of_mul_le_mul_right (c := (turn : Rat)) (by rw [eq]; show -(64 : Rat) * _ ≤ _; change -((64 : Rat) * _) ≤ _ at i1; grind) tp
  have b2 : q ≤ 64 := Rat.le_of_mul_le_mul_right (c := (turn : Rat)) (by rw [eq]; change _ ≤ (64 : Rat) * _ at i2; grind) tp
  obtain ⟨f, p1, p2⟩ := r.errp 6 (by rw [e6]; exact b1) (by rw [e6]; exact b2)
  rw [e6] at p1 p2
  have a := Rd_add f k3i.1
  have b := Rd_sub f k3i.1
  rw [k3i.2] at a b
  obtain ⟨f1, p3, p4⟩ := a.errp 7 (by rw [e7]; grind) (by rw [e7]; grind)
  obtain ⟨f2, p5, p6⟩ := b.errp 7 (by rw [e7]; grind) (by rw [e7]; grind)
  rw [e7] at p3 p4 p5 p6
  exact ⟨f, ⟨by grind, by grind⟩, ⟨f1, by grind, by grind⟩, f2, by grind, by grind⟩

end Mine

end
section
open PySem PySem.Float64
namespace Mine

theorem frac_zero {full : Int} (hf : 1 ≤ full) : FF (divI 0 full) ∧ fv (divI 0 full) = 0 := by
  obtain ⟨ρ, e0, p0, p1, f, e1, e2, q0, q1⟩ := frac_err hf (a := 0) (by omega) (by omega)
  have r := Rd_frac (a := 0) (b := full) (by omega)
  have : ((0 : Int) : Rat) / full = 0 := by rw [Rat.intCast_zero]; simp [Rat.div_def]
  rw [this] at r
  exact ⟨f, r.exact f Rp0⟩
end Mine

end
section
open PySem PySem.Float64
namespace Mine

end Mine

end
section
open PySem PySem.Float64
namespace Mine

end Mine

end
section
open PySem PySem.Float64
namespace Mine

theorem RpG {k : Nat} {q B : Rat} (hk : k ≤ 1000) (g : Gd k q) (h1 : -B ≤ q) (h2 : q ≤ B) (hB : B * 2 ^ k ≤ 2 ^ 53) : Rp q := by
  obtain ⟨m, hm⟩ := g
  have hp : (0 : Rat) < 2 ^ k := Rat.pow_pos (by decide)
  have a := Rat.mul_le_mul_of_nonneg_right h1 (Rat.le_of_lt hp)
  have b := Rat.mul_le_mul_of_nonneg_right h2 (Rat.le_of_lt hp)
  refine Rp_grid hk (m := m) ?_ hm
  have c1 : (m : Rat) ≤ ((2 ^ 53 : Int) : Rat) := by rw [Rat.intCast_pow]; show _ ≤ (2 : Rat) ^ 53; grind
  have c2 : ((-(2 ^ 53) : Int) : Rat) ≤ (m : Rat) := by rw [Rat.intCast_neg, Rat.intCast_pow]; show -(2 : Rat) ^ 53 ≤ _; grind
  have c1 := Rat.intCast_le_intCast.mp c1
  have c2 := Rat.intCast_le_intCast.mp c2
  omega
theorem Gd_one {k : Nat} : Gd k 1 := ⟨(2 ^ k : Nat), by rw [Rat.intCast_natCast, pow_cast]; grind⟩
theorem Gd_two {k : Nat} : Gd k 2 := by have := Gd.add (Gd_one (k := k)) Gd_one; rwa [show (1 : Rat) + 1 = 2 by grind] at this
theorem Gd_near {k : Nat} {l : Rat} (g : Gd k l) : Gd k (nearE l) := by
  unfold nearE; split
  · exact g
  · exact Gd.sub Gd_one g
/-- x % 1.0 of what lies within a turn of it -/
theorem mod1_in {x : UInt64} (f : FF x) (h0 : 0 ≤ fv x) (h1 : fv x < 1) : fv (mod1 x) = fv x := by
  obtain ⟨_, _, _, k, g, e, g0, g1, hh⟩ := mod1_spec f
  have : k = 0 := by
    have a : (k : Rat) < ((1 : Int) : Rat) := by rw [Rat.intCast_one]; grind
    have b : ((-1 : Int) : Rat) < (k : Rat) := by rw [Rat.intCast_neg, Rat.intCast_one]; grind
    have a := Rat.intCast_lt_intCast.mp a
    have b := Rat.intCast_lt_intCast.mp b
    omega
  subst this
  rw [Rat.intCast_zero] at e
  rcases hh with z | z <;> grind
theorem mod1_up {x : UInt64} (f : FF x) (h0 : 1 ≤ fv x) (h1 : fv x < 2) : fv (mod1 x) = fv x - 1 := by
  obtain ⟨_, _, _, k, g, e, g0, g1, hh⟩ := mod1_spec f
  have : k = 1 := by
    have a : (k : Rat) < ((2 : Int) : Rat) := by rw [show ((2 : Int) : Rat) = 2 from rfl]; grind
    have b : ((0 : Int) : Rat) < (k : Rat) := by rw [Rat.intCast_zero]; grind
    have a := Rat.intCast_lt_intCast.mp a
    have b := Rat.intCast_lt_intCast.mp b
    omega
  subst this
  rw [Rat.intCast_one] at e
  rcases hh with z | z <;> grind
theorem mod1_dn {x : UInt64} (f : FF x) (h0 : -1 ≤ fv x) (h1 : fv x < 0) : fv (mod1 x) - (fv x + 1) ≤ 1/2^54 ∧ (fv x + 1) - fv (mod1 x) ≤ 1/2^54 := by
  obtain ⟨fm, _, _, k, g, e, g0, g1, hh⟩ := mod1_spec f
  have : k = -1 := by
    have a : (k : Rat) < ((0 : Int) : Rat) := by rw [Rat.intCast_zero]; grind
    have b : ((-2 : Int) : Rat) < (k : Rat) := by rw [show ((-2 : Int) : Rat) = -2 from rfl]; grind
    have a := Rat.intCast_lt_intCast.mp a
    have b := Rat.intCast_lt_intCast.mp b
    omega
  subst this
  rw [Rat.intCast_neg, Rat.intCast_one] at e
  rcases hh with z | ⟨_, z⟩
  · exact ⟨by grind, by grind⟩
  · have := z.err1 (by grind) (by grind)
    exact ⟨by grind, by grind⟩
/-- -1/3 % 1.0 lies above two thirds -/
theorem third_back : fv (mod1 (Float64.sub 0 4599676419421066581)) = 6004799503160662 / 2^53 := by
  have e : mod1 (Float64.sub 0 4599676419421066581) = 4604180019048437078 := by decide +kernel
  rw [e]
  have := fv_const (x := 4604180019048437078) (m := 6004799503160662) (j := 1021) (k := 53) (by decide +kernel) (by decide)
  simpa using this
end Mine

end
section
open PySem PySem.Float64
namespace Mine

theorem vT_m2 {m1 m2 h : UInt64} (f : FF h) (h0 : 6004799503160661 / 2^55 ≤ fv h) (h1 : fv h < 1/2) : vT m1 m2 h = m2 := by
  rw [vT_eq f, if_neg (by grind), if_pos h1]
theorem vT_m1 {m1 m2 h : UInt64} (f : FF h) (h0 : 6004799503160661 / 2^53 ≤ fv h) : vT m1 m2 h = m1 := by
  rw [vT_eq f, if_neg (by grind), if_neg (by grind), if_neg (by grind)]
end Mine

end
section
open PySem PySem.Float64
namespace Mine

theorem vF_flat {m1 m2 a : UInt64} (l0 : 0 ≤ fv m1) (l1 : fv m1 ≤ 1) (f1 : FF m1) (f2 : FF m2) (fa : FF a) (e : fv m2 = fv m1) : FF (vF m1 m2 a) ∧ fv (vF m1 m2 a) = fv m1 := by
  have ramp : ∀ x : UInt64, FF x → FF (Float64.add m1 (Float64.mul (Float64.mul (Float64.sub m2 m1) x) 4618441417868443648)) ∧ fv (Float64.add m1 (Float64.mul (Float64.mul (Float64.sub m2 m1) x) 4618441417868443648)) = fv m1 := fun x fx => by
    have r1 := Rd_sub f2 f1
    rw [e, show fv m1 - fv m1 = 0 by grind] at r1
    obtain ⟨g1, _⟩ := r1.err1 (by decide) (by decide)
    have z1 := r1.exact g1 Rp0
    have r2 := Rd_mul g1 fx
    rw [z1, show (0 : Rat) * fv x = 0 by grind] at r2
    obtain ⟨g2, _⟩ := r2.err1 (by decide) (by decide)
    have z2 := r2.exact g2 Rp0
    have r3 := Rd_mul g2 k6.1
    rw [z2, show (0 : Rat) * fv 4618441417868443648 = 0 by grind] at r3
    obtain ⟨g3, _⟩ := r3.err1 (by decide) (by decide)
    have z3 := r3.exact g3 Rp0
    have r4 := Rd_add f1 g3
    rw [z3, show fv m1 + 0 = fv m1 by grind] at r4
    have m := Rp_fv f1
    have ff : FF (Float64.add m1 (Float64.mul (Float64.mul (Float64.sub m2 m1) x) 4618441417868443648)) := by
      exact (r4.err2 (by grind) (by grind)).1
    exact ⟨ff, r4.exact ff m⟩
  obtain ⟨fm, _⟩ := mod1_spec fa
  unfold vF
  rw [vT_eq fm]
  split
  · exact ramp _ fm
  · split
    · exact ⟨f2, e⟩
    · split
      · have r := Rd_sub k23.1 fm
        rw [k23.2] at r
        obtain ⟨g, _⟩ := r.err2 (by have := (mod1_spec fa).2.2.1; grind) (by have := (mod1_spec fa).2.1; grind)
        exact ramp _ g
      · exact ⟨f1, rfl⟩
end Mine

end
section
open PySem PySem.Float64
namespace Mine

theorem ceq {x y : UInt64} (fx : FF x) (fy : FF y) (h : fv x = fv y) : (Float64.cmp x y == some .eq) = true := by rw [cmp_eq fx fy]; simpa using h

end Mine

end
section
open PySem PySem.Float64
namespace Mine

theorem cancelQ {a b t : Rat} (ht : 0 < t) (h : a * t = b * t) : a = b := by
  have h1 := Rat.le_of_mul_le_mul_right (a := a) (b := b) (c := t) (by grind) ht
  have h2 := Rat.le_of_mul_le_mul_right (a := b) (b := a) (c := t) (by grind) ht
  grind
/-- the floats from 2^-j on are multiples of 2^-(52+j) -/
theorem grid_Rp {w : Rat} {j : Nat} (hj : j ≤ 100) (f : Rp w) (h : 1 / 2 ^ j ≤ w) : Gd (52 + j) w := by
  obtain ⟨m, k, hm, e⟩ := f
  have hS : (S : Rat) = 2 ^ (52 + j) * ((2 ^ (1022 - j) : Nat) : Rat) := by
    unfold S; rw [pow_cast, pow_cast, ← pow_split, show 52 + j + (1022 - j) = 1074 by omega]
  have pp : (0 : Rat) < ((2 ^ (1022 - j) : Nat) : Rat) := Rat.natCast_pos.mpr (Nat.two_pow_pos _)
  rcases Nat.lt_or_ge k (1022 - j) with q | q
  · -- then x is the power itself
    have hjp : (0 : Rat) < 2 ^ j := Rat.pow_pos (by decide)
    have hlo : ((2 ^ 52 * 2 ^ (1022 - j) : Nat) : Rat) ≤ (m : Rat) * (2 ^ k : Nat) := by
      rw [← e, hS, Rat.natCast_mul, pow_cast 52, pow_split]
      have a := Rat.mul_le_mul_of_nonneg_right h (Rat.le_of_lt hjp)
      rw [Rat.div_mul_cancel (pow_ne j)] at a
      have b := Rat.mul_le_mul_of_nonneg_right a (show (0 : Rat) ≤ 2 ^ 52 * ((2 ^ (1022 - j) : Nat) : Rat) from Rat.mul_nonneg (by decide +kernel) (Rat.le_of_lt pp))
      generalize ((2 ^ (1022 - j) : Nat) : Rat) = z at *
      generalize (2 : Rat) ^ j = y at *
      grind
    have m0 : 0 ≤ m := by
      rcases Int.lt_or_le m 0 with p | p
      · exfalso
        have : (m : Rat) ≤ 0 := by have := icast_le (show m ≤ 0 by omega); simpa using this
        have p2 : (0 : Rat) ≤ ((2 ^ k : Nat) : Rat) := Rat.natCast_nonneg
        have := Rat.mul_le_mul_of_nonneg_right this p2
        have n : (0 : Rat) < ((2 ^ 52 * 2 ^ (1022 - j) : Nat) : Rat) := Rat.natCast_pos.mpr (Nat.mul_pos (Nat.two_pow_pos _) (Nat.two_pow_pos _))
        grind
      · exact p
    obtain ⟨n, rfl⟩ : ∃ n : Nat, m = n := ⟨m.toNat, by omega⟩
    rw [Rat.intCast_natCast, ← Rat.natCast_mul] at hlo
    have hlo := Rat.natCast_le_natCast.mp hlo
    have hn : n ≤ 2 ^ 53 := by omega
    have hk : k = 1021 - j := by
      rcases Nat.lt_or_ge k (1021 - j) with p | p
      · exfalso
        have a : n * 2 ^ k ≤ 2 ^ 53 * 2 ^ (1020 - j) := Nat.mul_le_mul hn (Nat.pow_le_pow_right (by decide) (by omega))
        have b : 2 ^ 53 * 2 ^ (1020 - j) < 2 ^ 52 * 2 ^ (1022 - j) := by
          rw [← Nat.pow_add, ← Nat.pow_add]
          exact Nat.pow_lt_pow_right (by decide) (by omega)
        exact absurd (Nat.le_trans hlo a) (Nat.not_le.mpr b)
      · omega
    subst hk
    have e3 : 2 ^ (1022 - j) = 2 * 2 ^ (1021 - j) := by rw [show 1022 - j = (1021 - j) + 1 by omega, Nat.pow_succ, Nat.mul_comm]
    have hn2 : n = 2 ^ 53 := by
      rw [e3, ← Nat.mul_assoc] at hlo
      have := Nat.le_of_mul_le_mul_right hlo (Nat.two_pow_pos _)
      omega
    refine ⟨2 ^ 52, ?_⟩
    apply cancelQ pp
    have : w * 2 ^ (52 + j) * ((2 ^ (1022 - j) : Nat) : Rat) = w * S := by rw [hS]; grind
    rw [this, e, hn2, e3, Rat.natCast_mul, Rat.intCast_natCast]
    have : ((2 ^ 53 : Nat) : Rat) = 2 * ((2 ^ 52 : Int) : Rat) := by decide +kernel
    rw [this, show ((2 : Nat) : Rat) = 2 from rfl]
    generalize ((2 ^ (1021 - j) : Nat) : Rat) = z
    generalize ((2 ^ 52 : Int) : Rat) = y
    grind
  · refine ⟨m * (2 ^ (k - (1022 - j)) : Nat), ?_⟩
    apply cancelQ pp
    have : w * 2 ^ (52 + j) * ((2 ^ (1022 - j) : Nat) : Rat) = w * S := by rw [hS]; grind
    have e4 : 2 ^ k = 2 ^ (k - (1022 - j)) * 2 ^ (1022 - j) := by rw [← Nat.pow_add, show k - (1022 - j) + (1022 - j) = k by omega]
    rw [this, e, e4, Rat.natCast_mul, Rat.intCast_mul, Rat.intCast_natCast]
    grind

theorem Rp_half {w : Rat} (f : Rp w) (h : 1 ≤ w) : Rp (w / 2) := by
  obtain ⟨m, k, hm, e⟩ := f
  cases k with
  | zero =>
    exfalso
    have hS : ((2 ^ 100 : Nat) : Rat) ≤ S := cast_le (by unfold S; exact Nat.pow_le_pow_right (by decide) (by decide))
    have m1 : (m : Rat) ≤ ((2 ^ 53 : Int) : Rat) := icast_le (by omega)
    have a := Rat.mul_le_mul_of_nonneg_right h (Rat.le_of_lt S_pos)
    rw [e] at a
    have : ((2 ^ 53 : Int) : Rat) < ((2 ^ 100 : Nat) : Rat) := by decide +kernel
    simp at a
    grind
  | succ k =>
    refine ⟨m, k, hm, ?_⟩
    rw [Nat.pow_succ, Rat.natCast_mul] at e
    change _ = (m : Rat) * (_ * 2) at e
    generalize ((2 ^ k : Nat) : Rat) = z at *
    generalize (S : Rat) = y at *
    grind
theorem grid_one {w : Rat} (f : Rp w) (h : 1 ≤ w) : Gd 52 w := grid_Rp (j := 0) (by decide) f (by rw [show (2 : Rat) ^ 0 = 1 by decide +kernel]; grind)
end Mine

end
section
open PySem PySem.Float64
namespace Mine

theorem G6 {k : Nat} {q : Rat} (g : Gd k q) : Gd k (6 * q) := by
  obtain ⟨m, hm⟩ := g
  exact ⟨6 * m, by rw [Rat.intCast_mul, ← hm]; show 6 * q * 2 ^ k = (6 : Rat) * _; grind⟩
end Mine

end
section
open PySem PySem.Float64
namespace Mine

theorem Gd_n {k : Nat} (n : Int) : Gd k (n : Rat) := ⟨n * (2 ^ k : Nat), by rw [Rat.intCast_mul, Rat.intCast_natCast, pow_cast]⟩
theorem Gd_2 {k : Nat} : Gd k 2 := Gd_n 2
theorem Gd_4 {k : Nat} : Gd k 4 := Gd_n 4
end Mine

end
section
open PySem PySem.Float64
namespace Mine

theorem p2cast (n : Nat) : ((2 ^ n : Int) : Rat) = (2 : Rat) ^ n := by rw [Rat.intCast_pow]; rfl
theorem pow_mod3 (n : Nat) : (2 : Int) ^ n % 3 = 1 ∨ (2 : Int) ^ n % 3 = 2 := by
  induction n with
  | zero => left; rfl
  | succ n ih => rw [Int.pow_succ]; omega
end Mine

end
section
open PySem PySem.Float64
namespace Mine

end Mine

end
section
open PySem PySem.Float64
namespace Mine

theorem Gd_n0 {k : Nat} : Gd k 0 := ⟨0, by rw [Rat.intCast_zero]; grind⟩
end Mine

end
section
open PySem PySem.Float64
namespace Mine

theorem away8 {k j : Int} {h : Rat} {a : Nat} (ha : a ≤ 38) (e : h * 2 ^ a = k) (hj : 6 * k ≠ 2 ^ a * j) : h ≤ (j : Rat) / 6 - 1 / 2^41 ∨ (j : Rat) / 6 + 1 / 2^41 ≤ h := by
  have pa : (0 : Rat) < 2 ^ a := Rat.pow_pos (by decide)
  have pl := pow_mono2 (a := a) (b := 38) ha
  have z38 : (2 : Rat) ^ 38 / 2 ^ 41 = 1/8 := by decide +kernel
  rcases Int.lt_or_le (6 * k) (2 ^ a * j) with z | z
  · left
    have := icast_le (show 6 * k + 1 ≤ 2 ^ a * j by omega)
    rw [Rat.intCast_add, Rat.intCast_mul, Rat.intCast_mul, Rat.intCast_one, p2cast, ← e] at this
    change (6 : Rat) * _ + 1 ≤ _ at this
    apply Rat.le_of_mul_le_mul_right (c := (2 : Rat) ^ a) _ pa
    generalize (2 : Rat) ^ a = y at *
    grind
  · right
    have := icast_le (show 2 ^ a * j + 1 ≤ 6 * k by omega)
    rw [Rat.intCast_add, Rat.intCast_mul, Rat.intCast_mul, Rat.intCast_one, p2cast, ← e] at this
    change _ + 1 ≤ (6 : Rat) * _ at this
    apply Rat.le_of_mul_le_mul_right (c := (2 : Rat) ^ a) _ pa
    generalize (2 : Rat) ^ a = y at *
    grind

end Mine

end
section
open PySem PySem.Float64
namespace Mine

/-- m1 and m2 on the grid -/
theorem hlsM_exact8 {l s : UInt64} {b c : Nat} (hbc : b + c ≤ 40) (fl : FF l) (fs : FF s) (gl : Gd c (fv l)) (gs : Gd b (fv s)) (l0 : 0 ≤ fv l) (l1 : fv l ≤ 1) (s0 : 0 ≤ fv s) (s1 : fv s ≤ 1) :
    (FF (hlsM2 l s) ∧ fv (hlsM2 l s) = fv l + fv s * nearE (fv l)) ∧ (FF (hlsM1 l s) ∧ fv (hlsM1 l s) = fv l - fv s * nearE (fv l)) := by
  have nb := nearE_bd l0 l1
  have w0 := Rat.mul_nonneg s0 nb.1
  have w1 := Rat.mul_le_mul_of_nonneg_right s1 nb.1
  have gw : Gd 40 (fv s * nearE (fv l)) := (Gd.mul gs (Gd_near gl)).more hbc
  have gl' : Gd 40 (fv l) := gl.more (by omega)
  have gs' : Gd 40 (fv s) := gs.more (by omega)
  have u48 : (2 : Rat) * 2 ^ 40 ≤ 2 ^ 53 := by decide +kernel
  have key : FF (hlsM2 l s) ∧ fv (hlsM2 l s) = fv l + fv s * nearE (fv l) := by
    have f2 := (hlsM_err fl fs l0 l1 s0 s1).1.1
    refine ⟨f2, ?_⟩
    unfold hlsM2 leF at f2 ⊢
    rw [cmp_le fl kh.1, kh.2] at f2 ⊢
    by_cases z : fv l ≤ 1/2
    · rw [if_pos (by simpa using z)] at f2 ⊢
      have e : nearE (fv l) = fv l := by unfold nearE; rw [if_pos z]
      rw [e] at gw ⊢
      have r := Rd_add fv1.1 fs
      rw [fv1.2] at r
      obtain ⟨f1, _⟩ := r.err2 (by grind) (by grind)
      have e1 := r.exact f1 (RpG (k := 40) (B := 2) (by decide) (Gd.add Gd_one gs') (by grind) (by grind) u48)
      have r2 := Rd_mul fl f1
      rw [e1, show fv l * (1 + fv s) = fv l + fv s * fv l by grind] at r2
      exact r2.exact f2 (RpG (k := 40) (B := 2) (by decide) (Gd.add gl' gw) (by grind) (by grind) u48)
    · rw [if_neg (by simpa using z)] at f2 ⊢
      have e : nearE (fv l) = 1 - fv l := by unfold nearE; rw [if_neg z]
      rw [e] at gw w0 w1 ⊢
      have bb := mulb (a := fv s) (d := 1) s1 (by grind) l0 l1
      obtain ⟨f1, _⟩ := (Rd_add fl fs).err2 (by grind) (by grind)
      have e1 := (Rd_add fl fs).exact f1 (RpG (k := 40) (B := 2) (by decide) (Gd.add gl' gs') (by grind) (by grind) u48)
      obtain ⟨f3, _⟩ := (Rd_mul fl fs).err1 (by grind) (by grind)
      have e3 := (Rd_mul fl fs).exact f3 (RpG (k := 40) (B := 2) (by decide) ((Gd.mul gl gs).more (by omega)) (by grind) (by grind) u48)
      have r := Rd_sub f1 f3
      rw [e1, e3, show fv l + fv s - fv l * fv s = fv l + fv s * (1 - fv l) by grind] at r
      exact r.exact f2 (RpG (k := 40) (B := 2) (by decide) (Gd.add gl' gw) (by grind) (by grind) u48)
  refine ⟨key, ?_⟩
  have f1 := (hlsM_err fl fs l0 l1 s0 s1).2.1
  refine ⟨f1, ?_⟩
  unfold hlsM1 at f1 ⊢
  have r := Rd_mul k2.1 fl
  rw [k2.2] at r
  obtain ⟨g2, _⟩ := r.err2 (by grind) (by grind)
  have e2 := r.exact g2 (dblRp (Rp_fv fl))
  have r2 := Rd_sub g2 key.1
  rw [e2, key.2, show 2 * fv l - (fv l + fv s * nearE (fv l)) = fv l - fv s * nearE (fv l) by grind] at r2
  exact r2.exact f1 (RpG (k := 40) (B := 2) (by decide) (Gd.sub gl' gw) (by grind) (by grind) u48)

/-- rounding of a product, the other way round -/
theorem times_round8 {K x : UInt64} {N : Int} (hK : FF K) (hx : FF x) (h1 : fv x * fv K - N ≤ 3 / 8) (h2 : N - fv x * fv K ≤ 3 / 8) (b1 : -2 ^ 49 ≤ fv x * fv K) (b2 : fv x * fv K ≤ 2 ^ 49) : FF (Float64.mul x K) ∧ roundF (Float64.mul x K) = N := by
  obtain ⟨f, p, q⟩ := (Rd_mul hx hK).errp 49 b1 b2
  have e : (2 : Rat) ^ 49 / 2 ^ 54 = 1/32 := by decide +kernel
  rw [e] at p q
  exact ⟨f, roundF_near f (by grind) (by grind)⟩
end Mine

end
section
open PySem PySem.Float64
namespace Mine

/-- the lightness of a light colour -/
theorem light_lit {M N : UInt64} {W : Int} (fM : FF M) (fN : FF N) (eM : fv M = 1) (eN : fv N * 2 ^ 53 = 2 ^ 53 - (W : Rat)) (w0 : 0 ≤ W) (w1 : W < 2 ^ 52) :
    FF (litF M N) ∧ (fv (litF M N) * 2 ^ 53 = ((2 ^ 53 - W / 2 : Int) : Rat) ∨ fv (litF M N) * 2 ^ 53 = ((2 ^ 53 - W / 2 - W % 2 : Int) : Rat)) ∧ 1/2 < fv (litF M N) := by
  have W0 : (0 : Rat) ≤ W := by have := icast_le w0; simpa using this
  have W1 : (W : Rat) ≤ 2 ^ 52 := by have := icast_le (show W ≤ 2 ^ 52 by omega); rwa [p2cast] at this
  have r := Rd_add fM fN
  rw [eM] at r
  have hN : fv N = 1 - (W : Rat) / 2 ^ 53 := by grind
  rw [hN] at r
  obtain ⟨f, p, q⟩ := r.err2 (by grind) (by grind)
  have lo : (1 : Rat) ≤ fv (Float64.add M N) := by grind
  have key : fv (Float64.add M N) * 2 ^ 52 = ((2 ^ 53 - W / 2 : Int) : Rat) ∨ fv (Float64.add M N) * 2 ^ 52 = ((2 ^ 53 - W / 2 - W % 2 : Int) : Rat) := by
    obtain ⟨m, hm⟩ := grid_one (Rp_fv f) lo
    have hW : W = 2 * (W / 2) + W % 2 := by omega
    have hWq : (W : Rat) = 2 * (W / 2 : Int) + (W % 2 : Int) := by
      have : ((2 * (W / 2) + W % 2 : Int) : Rat) = (W : Rat) := by rw [← hW]
      rw [← this, Rat.intCast_add, Rat.intCast_mul]; rfl
    rw [hm]
    have a1 : (m : Rat) ≤ ((2 ^ 53 - W / 2 : Int) : Rat) ∧ ((2 ^ 53 - W / 2 - W % 2 : Int) : Rat) ≤ (m : Rat) := by
      rw [← hm]
      rcases Int.emod_two_eq W with z | z
      · have e : (1 : Rat) + (1 - (W : Rat) / 2 ^ 53) = ((2 ^ 53 - W / 2 : Int) : Rat) / 2 ^ 52 := by
          rw [Rat.intCast_sub, p2cast, hWq, z, Rat.intCast_zero]; grind
        rw [e] at r
        have := r.exact f (Rp_grid (k := 52) (m := 2 ^ 53 - W / 2) (by decide) (by omega) (Rat.div_mul_cancel (pow_ne 52)))
        rw [this, z, Rat.div_mul_cancel (pow_ne 52)]
        refine ⟨Rat.le_refl, ?_⟩
        rw [show 2 ^ 53 - W / 2 - 0 = 2 ^ 53 - W / 2 by omega]; exact Rat.le_refl
      · have R1 : Rp (((2 ^ 53 - W / 2 : Int) : Rat) / 2 ^ 52) := Rp_grid (k := 52) (m := 2 ^ 53 - W / 2) (by decide) (by omega) (Rat.div_mul_cancel (pow_ne 52))
        have R2 : Rp (((2 ^ 53 - W / 2 - 1 : Int) : Rat) / 2 ^ 52) := Rp_grid (k := 52) (m := 2 ^ 53 - W / 2 - 1) (by decide) (by omega) (Rat.div_mul_cancel (pow_ne 52))
        have eq : (1 : Rat) + (1 - (W : Rat) / 2 ^ 53) = 2 - ((W / 2 : Int) : Rat) / 2 ^ 52 - 1 / 2 ^ 53 := by
          rw [hWq, z, Rat.intCast_one]; grind
        have c1 := r.le f R1 (by rw [eq, Rat.intCast_sub, p2cast]; grind)
        have c2 := r.ge f R2 (by rw [eq, Rat.intCast_sub, Rat.intCast_sub, p2cast, Rat.intCast_one]; grind)
        rw [z]
        have d1 := Rat.mul_le_mul_of_nonneg_right c1 (show (0 : Rat) ≤ 2 ^ 52 by decide +kernel)
        have d2 := Rat.mul_le_mul_of_nonneg_right c2 (show (0 : Rat) ≤ 2 ^ 52 by decide +kernel)
        rw [Rat.div_mul_cancel (pow_ne 52)] at d1 d2
        exact ⟨d1, d2⟩
    have b1 := Rat.intCast_le_intCast.mp a1.1
    have b2 := Rat.intCast_le_intCast.mp a1.2
    have : m = 2 ^ 53 - W / 2 ∨ m = 2 ^ 53 - W / 2 - W % 2 := by omega
    rcases this with rfl | rfl
    · exact .inl rfl
    · exact .inr rfl
  unfold litF
  have rd := Rd_div f k2.1 (by rw [k2.2]; decide)
  rw [k2.2] at rd
  obtain ⟨fd, _⟩ := rd.err2 (by grind) (by grind)
  have ed := rd.exact fd (Rp_half (Rp_fv f) lo)
  refine ⟨fd, ?_, ?_⟩
  · rw [ed]
    rcases key with z | z
    · left; rw [← z]; grind
    · right; rw [← z]; grind
  · rw [ed]; grind

/-- the saturation of a light colour -/
theorem light_sat {M N : UInt64} {W : Int} (fM : FF M) (fN : FF N) (eM : fv M = 1) (eN : fv N * 2 ^ 53 = 2 ^ 53 - (W : Rat)) (w0 : 0 < W) (w1 : W < 2 ^ 52) : FF (satF M N) ∧ fv (satF M N) = 1 := by
  have W0 : (1 : Rat) ≤ W := by have := icast_le (show 1 ≤ W by omega); exact this
  have W1 : (W : Rat) ≤ 2 ^ 52 := by have := icast_le (show W ≤ 2 ^ 52 by omega); rwa [p2cast] at this
  obtain ⟨fl, _, lh⟩ := light_lit fM fN eM eN (by omega) w1
  have hN : fv N = 1 - (W : Rat) / 2 ^ 53 := by grind
  unfold satF leF
  rw [cmp_le fl kh.1, kh.2, if_neg (by simp; grind)]
  have wR : Rp ((W : Rat) / 2 ^ 53) := Rp_grid (k := 53) (m := W) (by decide) (by omega) (Rat.div_mul_cancel (pow_ne 53))
  have r1 := Rd_sub fM fN
  rw [eM, hN, show (1 : Rat) - (1 - (W : Rat) / 2 ^ 53) = (W : Rat) / 2 ^ 53 by grind] at r1
  obtain ⟨f1, _⟩ := r1.err1 (by grind) (by grind)
  have e1 := r1.exact f1 wR
  have r2 := Rd_sub k2.1 fM
  rw [k2.2, eM, show (2 : Rat) - 1 = 1 by grind] at r2
  obtain ⟨f2, _⟩ := r2.err1 (by decide) (by decide)
  have e2 := r2.exact f2 one_Rp
  have r3 := Rd_sub f2 fN
  rw [e2, hN, show (1 : Rat) - (1 - (W : Rat) / 2 ^ 53) = (W : Rat) / 2 ^ 53 by grind] at r3
  obtain ⟨f3, _⟩ := r3.err1 (by grind) (by grind)
  have e3 := r3.exact f3 wR
  have ne : ¬ (W : Rat) / 2 ^ 53 = 0 := by
    intro z
    have : (W : Rat) / 2 ^ 53 * 2 ^ 53 = W := Rat.div_mul_cancel (pow_ne 53)
    rw [z] at this; grind
  have r4 := Rd_div f1 f3 (by rw [e3]; exact ne)
  have q1 : (W : Rat) / 2 ^ 53 / ((W : Rat) / 2 ^ 53) = 1 := by
    generalize (W : Rat) / 2 ^ 53 = y at *
    grind
  rw [e1, e3, q1] at r4
  obtain ⟨f4, _⟩ := r4.err1 (by decide) (by decide)
  exact ⟨f4, r4.exact f4 one_Rp⟩
end Mine

end
section
open PySem PySem.Float64
namespace Mine

/-- an exact quotient on the grid -/
theorem rc_exact {M N c : UInt64} {D0 t : Rat} {a : Nat} (ha : a ≤ 50) (fM : FF M) (fN : FF N) (fc : FF c) (gD : Rp D0) (eD : fv M - fv N = D0) (d0 : 0 < D0) (d1 : D0 ≤ 1) (gX : Rp (D0 * t)) (eX : fv M - fv c = D0 * t) (gt : Gd a t) (t0 : 0 ≤ t) (t1 : t ≤ 1) : FF (rcF M N c) ∧ fv (rcF M N c) = t := by
  unfold rcF
  have r1 := Rd_sub fM fN
  rw [eD] at r1
  obtain ⟨f1, _⟩ := r1.err1 (by grind) d1
  have e1 := r1.exact f1 gD
  have r2 := Rd_sub fM fc
  rw [eX] at r2
  have b := mulb (a := D0) (d := 1) d1 (by grind) t0 t1
  have b0 := Rat.mul_nonneg (Rat.le_of_lt d0) t0
  obtain ⟨f2, _⟩ := r2.err1 (by grind) (by grind)
  have e2 := r2.exact f2 gX
  have r3 := Rd_div f2 f1 (by rw [e1]; grind)
  rw [e1, e2, show D0 * t / D0 = t by grind] at r3
  obtain ⟨f3, _⟩ := r3.err1 (by grind) t1
  refine ⟨f3, r3.exact f3 (RpG (k := a) (B := 1) (by omega) gt (by grind) t1 ?_)⟩
  have := pow_mono2 (a := a) (b := 53) (by omega)
  grind

/-- the hue of an exact colour -/
theorem hue_exact {M N r g b : UInt64} {x0 N0 D0 : Rat} {a : Nat} (ha : a ≤ 40) (fM : FF M) (fN : FF N) (fr : FF r) (fg : FF g) (fb : FF b) (r1 : fv N ≤ fv r) (r2 : fv r ≤ fv M) (g1 : fv N ≤ fv g) (g2 : fv g ≤ fv M) (b1 : fv N ≤ fv b) (b2 : fv b ≤ fv M)
    (hM : fv M = fv r ∨ fv M = fv g ∨ fv M = fv b) (hN : fv N = fv r ∨ fv N = fv g ∨ fv N = fv b) (h : fv N < fv M) (hb : fv M - fv N ≤ 2) (eM : fv M = N0 + D0) (eN : fv N = N0) (hD1 : D0 ≤ 1) (gD : Rp D0)
    (er : fv r = N0 + D0 * cvP (x0 + 1/3)) (eg : fv g = N0 + D0 * cvP x0) (eb : fv b = N0 + D0 * cvP (x0 - 1/3))
    (gr : Gd a (cvP (x0 + 1/3))) (gg : Gd a (cvP x0)) (gb : Gd a (cvP (x0 - 1/3))) (pr : Rp (D0 * (1 - cvP (x0 + 1/3)))) (pg : Rp (D0 * (1 - cvP x0))) (pb : Rp (D0 * (1 - cvP (x0 - 1/3)))) (g6 : Gd a (6 * x0)) :
    ∃ k : Int, FF (hue0 M N r g b) ∧ fv (hue0 M N r g b) = 6 * (x0 + k) ∧ -1 ≤ 6 * (x0 + k) ∧ 6 * (x0 + k) ≤ 5 := by
  have hD : 0 < D0 := by grind
  have bA := cvP_bd (x0 + 1/3)
  have bB := cvP_bd x0
  have bC := cvP_bd (x0 - 1/3)
  have one : ∀ q : Rat, Gd a q → Gd a (1 - q) := fun q g => Gd.sub Gd_one g
  obtain ⟨fR, eR⟩ := rc_exact (a := a) (t := 1 - cvP (x0 + 1/3)) (by omega) fM fN fr gD (by rw [eM, eN]; grind) hD hD1 pr (by rw [eM, er]; grind) (one _ gr) (by grind) (by grind)
  obtain ⟨fG, eG⟩ := rc_exact (a := a) (t := 1 - cvP x0) (by omega) fM fN fg gD (by rw [eM, eN]; grind) hD hD1 pg (by rw [eM, eg]; grind) (one _ gg) (by grind) (by grind)
  obtain ⟨fB, eB⟩ := rc_exact (a := a) (t := 1 - cvP (x0 - 1/3)) (by omega) fM fN fb gD (by rw [eM, eN]; grind) hD hD1 pb (by rw [eM, eb]; grind) (one _ gb) (by grind) (by grind)
  have ge : ∀ q : Rat, Gd a q → -8 ≤ q → q ≤ 8 → Rp q := fun q g h1 h2 => by
    refine RpG (k := a) (B := 8) (by omega) g h1 h2 ?_
    have := pow_mono2 (a := a) (b := 40) ha
    have : (8 : Rat) * 2 ^ 40 ≤ 2 ^ 53 := by decide +kernel
    grind
  have top : ∀ q : Rat, fv M = N0 + D0 * q → q = 1 := fun q e => cancelQ hD (by grind)
  obtain ⟨k, f, hx, f0, f1, sx⟩ := sext x0
  have key : ∀ v : Rat, v = 6 * f ∨ v = 6 * f - 6 → ∃ k : Int, v = 6 * (x0 + k) := fun v h => by
    rcases h with h | h
    · exact ⟨-k, by rw [h, hx, Rat.intCast_neg]; grind⟩
    · exact ⟨-k - 1, by rw [h, hx, Rat.intCast_sub, Rat.intCast_neg, Rat.intCast_one]; grind⟩
  suffices h : ∃ v : Rat, FF (hue0 M N r g b) ∧ fv (hue0 M N r g b) = v ∧ -1 ≤ v ∧ v ≤ 5 ∧ (v = 6 * f ∨ v = 6 * f - 6) by
    obtain ⟨v, h1, h2, h3, h4, h5⟩ := h
    obtain ⟨k, hk⟩ := key v h5
    exact ⟨k, h1, by rw [h2, hk], by rw [← hk]; exact h3, by rw [← hk]; exact h4⟩
  have qa := one _ gr
  have qb := one _ gg
  have qc := one _ gb
  unfold hue0
  rw [cmp_eq fr fM, cmp_eq fg fM]
  have cA : fv r = fv M ↔ cvP (x0 + 1/3) = 1 := ⟨fun e => top _ (by rw [← e, er]), fun e => by rw [er, e, eM]; grind⟩
  have cB : fv g = fv M ↔ cvP x0 = 1 := ⟨fun e => top _ (by rw [← e, eg]), fun e => by rw [eg, e, eM]; grind⟩
  rw [show decide (fv r = fv M) = decide (cvP (x0 + 1/3) = 1) from by simp [cA], show decide (fv g = fv M) = decide (cvP x0 = 1) from by simp [cB]]
  clear cA cB er eg eb eM eN pr pg pb gr gg gb g6 top key hx hM hN r1 r2 g1 g2 b1 b2 h hb hD hD1 gD
  generalize cvP (x0 + 1/3) = A at *
  generalize cvP x0 = B at *
  generalize cvP (x0 - 1/3) = C at *
  by_cases z1 : A = 1
  · rw [if_pos (by simpa using z1)]
    have rr := Rd_sub fB fG
    rw [eB, eG] at rr
    obtain ⟨ff, _⟩ := rr.err2 (by clear sx; grind) (by clear sx; grind)
    refine ⟨_, ff, rr.exact ff (ge _ (Gd.sub qc qb) (by clear sx; grind) (by clear sx; grind)), by clear sx; grind, by clear sx; grind, ?_⟩
    clear rr ff eR eG eB
    grind
  rw [if_neg (by simpa using z1)]
  by_cases z2 : B = 1
  · rw [if_pos (by simpa using z2)]
    have ra := Rd_add k2.1 fR
    rw [k2.2, eR] at ra
    obtain ⟨f', _⟩ := ra.err8 (by clear sx; grind) (by clear sx; grind)
    have ea := ra.exact f' (ge _ (Gd.add Gd_2 qa) (by clear sx; grind) (by clear sx; grind))
    have rr := Rd_sub f' fB
    rw [ea, eB] at rr
    obtain ⟨ff, _⟩ := rr.err8 (by clear sx; grind) (by clear sx; grind)
    refine ⟨_, ff, rr.exact ff (ge _ (Gd.sub (Gd.add Gd_2 qa) qc) (by clear sx; grind) (by clear sx; grind)), by clear sx; grind, by clear sx; grind, ?_⟩
    clear rr ra ff f' ea eR eG eB
    grind
  · rw [if_neg (by simpa using z2)]
    have ra := Rd_add k4.1 fG
    rw [k4.2, eG] at ra
    obtain ⟨f', _⟩ := ra.err8 (by clear sx; grind) (by clear sx; grind)
    have ea := ra.exact f' (ge _ (Gd.add Gd_4 qb) (by clear sx; grind) (by clear sx; grind))
    have rr := Rd_sub f' fR
    rw [ea, eR] at rr
    obtain ⟨ff, _⟩ := rr.err8 (by clear sx; grind) (by clear sx; grind)
    refine ⟨_, ff, rr.exact ff (ge _ (Gd.sub (Gd.add Gd_4 qb) qa) (by clear sx; grind) (by clear sx; grind)), by clear sx; grind, by clear sx; grind, ?_⟩
    clear rr ra ff f' ea eR eG eB
    grind

/-- a hue is finite -/
theorem hueF_fin {M N r g b : UInt64} (fM : FF M) (fN : FF N) (fr : FF r) (fg : FF g) (fb : FF b) (r1 : fv N ≤ fv r) (r2 : fv r ≤ fv M) (g1 : fv N ≤ fv g) (g2 : fv g ≤ fv M) (b1 : fv N ≤ fv b) (b2 : fv b ≤ fv M) (h : fv N < fv M) (hb : fv M - fv N ≤ 2) : FF (hueF M N r g b) := by
  obtain ⟨_, _, _, _, fR, _, _, R0, R1⟩ := rc_err fM fN fr r1 r2 h hb
  obtain ⟨_, _, _, _, fG, _, _, G0, G1⟩ := rc_err fM fN fg g1 g2 h hb
  obtain ⟨_, _, _, _, fB, _, _, B0, B1⟩ := rc_err fM fN fb b1 b2 h hb
  have fin : ∀ (q : UInt64), Rp (fv q) → FF q → -8 ≤ fv q → fv q ≤ 8 → FF (mod1 (Float64.div q 4618441417868443648)) := fun q _ fq q0 q1 => by
    have rd := Rd_div fq k6.1 (by rw [k6.2]; decide)
    rw [k6.2] at rd
    exact (mod1_spec (rd.err2 (by grind) (by grind)).1).1
  have e8 : Rp 8 := Rp_grid (k := 0) (m := 8) (by decide) (by decide) (by decide +kernel)
  have en : Rp (-8) := Rp_grid (k := 0) (m := -8) (by decide) (by decide) (by decide +kernel)
  have sm : ∀ (q : UInt64) (v : Rat), Rd q v → -8 ≤ v → v ≤ 8 → FF q ∧ -8 ≤ fv q ∧ fv q ≤ 8 := fun q v r h1 h2 => by
    obtain ⟨f, _⟩ := r.err8 h1 h2
    exact ⟨f, r.ge f en h1, r.le f e8 h2⟩
  have done : ∀ (q : UInt64) (v : Rat), Rd q v → -8 ≤ v → v ≤ 8 → FF (mod1 (Float64.div q 4618441417868443648)) := fun q v r h1 h2 => by
    obtain ⟨f, a, b⟩ := sm q v r h1 h2
    exact fin q (Rp_fv f) f a b
  clear r1 r2 g1 g2 b1 b2 h hb
  unfold hueF hue0
  split
  · exact done _ _ (Rd_sub fB fG) (by grind) (by grind)
  · split
    · have ra := Rd_add k2.1 fR
      obtain ⟨f', p, q⟩ := ra.err8 (by rw [k2.2]; grind) (by rw [k2.2]; grind)
      rw [k2.2] at p q
      exact done _ _ (Rd_sub f' fB) (by grind) (by grind)
    · have ra := Rd_add k4.1 fG
      obtain ⟨f', p, q⟩ := ra.err8 (by rw [k4.2]; grind) (by rw [k4.2]; grind)
      rw [k4.2] at p q
      exact done _ _ (Rd_sub f' fR) (by grind) (by grind)
end Mine

end
section
open PySem PySem.Float64
namespace Mine

theorem hueF_of {M N r g b : UInt64} {x0 : Rat} {k : Int} (f0 : FF (hue0 M N r g b)) (e0 : fv (hue0 M N r g b) = 6 * (x0 + k)) (b1 : -1 ≤ 6 * (x0 + k)) (b2 : 6 * (x0 + k) ≤ 5) (hx : x0 = 0 ∨ (1/2^42 ≤ x0 ∧ x0 ≤ 1 - 1/2^42)) :
    FF (hueF M N r g b) ∧ 0 ≤ fv (hueF M N r g b) ∧ fv (hueF M N r g b) ≤ 1 ∧ fv (hueF M N r g b) - x0 ≤ 1/2^53 ∧ x0 - fv (hueF M N r g b) ≤ 1/2^53 ∧ (Gd 42 x0 → fv (hueF M N r g b) = x0) := by
  unfold hueF
  have rd := Rd_div f0 k6.1 (by rw [k6.2]; decide)
  rw [k6.2, e0, show 6 * (x0 + (k : Rat)) / 6 = x0 + k by grind] at rd
  obtain ⟨fT, t1, t2⟩ := rd.err1 (by grind) (by grind)
  obtain ⟨fm, m0, m1, k', f, e, g0, g1, hh⟩ := mod1_spec fT
  have ex : Gd 42 x0 → fv (Float64.div (hue0 M N r g b) 4618441417868443648) = x0 + k := fun g =>
    rd.exact fT (RpG (k := 42) (B := 1) (by decide) (Gd.add g (Gd_n k)) (by grind) (by grind) (by decide +kernel))
  generalize Float64.div (hue0 M N r g b) 4618441417868443648 = T at *
  have z0 : x0 = 0 → fv T = k := fun z => by
    have := ex (by rw [z]; exact Gd_n0)
    rw [this, z]; grind
  have hk : k' = k := by
    have a : (k' : Rat) < ((k + 1 : Int) : Rat) := by
      rw [Rat.intCast_add, Rat.intCast_one]
      rcases hx with z | z
      · have := z0 z; grind
      · grind
    have b : (k : Rat) < ((k' + 1 : Int) : Rat) := by
      rw [Rat.intCast_add, Rat.intCast_one]
      rcases hx with z | z
      · have := z0 z; grind
      · grind
    have a := Rat.intCast_lt_intCast.mp a
    have b := Rat.intCast_lt_intCast.mp b
    omega
  subst hk
  have hm : fv (mod1 T) - f ≤ 1/2^54 ∧ f - fv (mod1 T) ≤ 1/2^54 := by
    rcases hh with z | ⟨_, z⟩
    · exact ⟨by grind, by grind⟩
    · exact (z.err1 (by grind) (by grind)).2
  refine ⟨fm, m0, m1, by grind, by grind, fun g => ?_⟩
  have ef : f = x0 := by have := ex g; grind
  rcases hh with z | ⟨_, z⟩
  · rw [z, ef]
  · rw [ef] at z
    exact z.exact fm (RpG (k := 42) (B := 1) (by decide) g (by grind) (by grind) (by decide +kernel))
end Mine

end
section
open PySem PySem.Float64
namespace Mine

/-- _law_parts, a component -/
noncomputable def fallI (n hue corner : Int) : Int := min (max (min ((hue - corner) % (6 * n)) (6 * n - (hue - corner) % (6 * n)) - n) 0) n
noncomputable def partI (n m k hue l s corner : Int) : Int := l * n * m + s * min l (k - l) * (n - 2 * fallI n hue corner)
theorem fall_bd {n hue corner : Int} (hn : 0 < n) : 0 ≤ fallI n hue corner ∧ fallI n hue corner ≤ n := by unfold fallI; omega

/-- the fall by the curve -/
theorem fall_cv {n y : Int} (hn : 0 < n) : cvP ((y : Rat) / (6 * n) + 1/3) * n = n - ((min (max (min (y % (6 * n)) (6 * n - y % (6 * n)) - n) 0) n : Int) : Rat) := by
  have np := ipos hn
  have hm0 := Int.emod_nonneg y (show 6 * n ≠ 0 by omega)
  have hm1 := Int.emod_lt_of_pos y (show 0 < 6 * n by omega)
  have hdm := Int.mul_ediv_add_emod y (6 * n)
  generalize y % (6 * n) = m at *
  generalize y / (6 * n) = q at *
  obtain ⟨g, hg⟩ : ∃ g : Rat, g * (6 * n) = m := ⟨(m : Rat) / (6 * n), Rat.div_mul_cancel (by grind)⟩
  have hy : (y : Rat) / (6 * n) + 1/3 = (g + 1/3) + q := by
    have : (y : Rat) = 6 * n * q + m := by
      rw [← hdm, Rat.intCast_add, Rat.intCast_mul, Rat.intCast_mul]; rfl
    rw [this, ← hg]; grind
  rw [hy, cvP_add]
  clear hy hdm
  have dn : ∀ (c : Int) (r : Rat), r * 6 = c → r ≤ g → c * n ≤ m := fun c r e h => by
    have a := Rat.mul_le_mul_of_nonneg_right h (show (0 : Rat) ≤ 6 * n by grind)
    refine Rat.intCast_le_intCast.mp ?_
    rw [Rat.intCast_mul, ← e, ← hg]; grind
  have up : ∀ (c : Int) (r : Rat), r * 6 = c → g < r → m < c * n := fun c r e h => by
    have a := Rat.mul_lt_mul_of_pos_right h (show (0 : Rat) < 6 * n by grind)
    refine Rat.intCast_lt_intCast.mp ?_
    rw [Rat.intCast_mul, ← e, ← hg]; grind
  have pos : (0 : Rat) < 6 * n := by grind
  have g0 : 0 ≤ g := Rat.le_of_mul_le_mul_right (c := (6 * n : Rat)) (by rw [hg]; have := inn hm0; grind) pos
  have g1 : g < 1 := Rat.lt_of_mul_lt_mul_right (c := (6 * n : Rat)) (by rw [hg]; have := Rat.intCast_lt_intCast.mpr hm1; rw [Rat.intCast_mul] at this; show (m : Rat) < 1 * ((6 : Rat) * n); rw [Rat.one_mul]; exact this) (Rat.le_of_lt pos)
  obtain ⟨k, f, x1, x2, x3, sx⟩ := sext g
  have kz : k = 0 := by
    have a' : (k : Rat) < ((1 : Int) : Rat) := by rw [Rat.intCast_one]; clear sx; grind
    have b' : ((-1 : Int) : Rat) < (k : Rat) := by rw [Rat.intCast_neg, Rat.intCast_one]; clear sx; grind
    have a' := Rat.intCast_lt_intCast.mp a'
    have b' := Rat.intCast_lt_intCast.mp b'
    omega
  have hf : f = g := by rw [x1, kz, Rat.intCast_zero, Rat.zero_add]
  subst hf
  clear x1 kz x2 x3 g0 g1 pos
  have fin : ∀ (v : Int), min (max (min m (6 * n - m) - n) 0) n = v → cvP (f + 1/3) * n = n - (v : Rat) → cvP (f + 1/3) * n = n - ((min (max (min m (6 * n - m) - n) 0) n : Int) : Rat) := fun v e h => by rw [e]; exact h
  rcases sx with ⟨s1, a, _⟩ | ⟨s0, s1, a, _⟩ | ⟨s0, s1, a, _⟩ | ⟨s0, s1, a, _⟩ | ⟨s0, s1, a, _⟩ | ⟨s0, a, _⟩
  · have u := up 1 _ (by decide +kernel) s1
    exact fin 0 (by omega) (by rw [a, Rat.intCast_zero]; grind)
  · have u := dn 1 _ (by decide +kernel) s0
    have v := up 2 _ (by decide +kernel) s1
    exact fin (m - n) (by omega) (by rw [a, Rat.intCast_sub, ← hg]; grind)
  · have u := dn 2 _ (by decide +kernel) s0
    have v := up 3 _ (by decide +kernel) s1
    exact fin n (by omega) (by rw [a]; grind)
  · have u := dn 3 _ (by decide +kernel) s0
    have v := up 4 _ (by decide +kernel) s1
    exact fin n (by omega) (by rw [a]; grind)
  · have u := dn 4 _ (by decide +kernel) s0
    have v := up 5 _ (by decide +kernel) s1
    exact fin (5 * n - m) (by omega) (by rw [a, Rat.intCast_sub, Rat.intCast_mul, ← hg]; show _ = n - ((5 : Rat) * n - _); grind)
  · have u := dn 5 _ (by decide +kernel) s0
    exact fin 0 (by omega) (by rw [a, Rat.intCast_zero]; grind)

/-- a component by the curve: exact -/
theorem part_val {a b c : Nat} {hue l s corner : Int} {ρl ρs : Rat} (habc : a + b + c = 40) (hl : ρl * 2 ^ c = l) (hs : ρs * 2 ^ b = s) (l0 : 0 ≤ l) (l1 : l ≤ 2 ^ c) (s0 : 0 ≤ s) (s1 : s ≤ 2 ^ b) :
    ((partI (2 ^ a) (2 ^ b) (2 ^ c) hue l s corner : Int) : Rat) / 2 ^ 40 = (ρl - ρs * nearE ρl) + 2 * (ρs * nearE ρl) * cvP (((hue - corner : Int) : Rat) / (6 * 2 ^ a) + 1/3) ∧
    cvP (((hue - corner : Int) : Rat) / (6 * 2 ^ a) + 1/3) = 1 - ((fallI (2 ^ a) hue corner : Int) : Rat) / 2 ^ a := by
  have pA : (0 : Rat) < 2 ^ a := Rat.pow_pos (by decide)
  have li := fall_cv (n := 2 ^ a) (y := hue - corner) (Int.pow_pos (by decide))
  rw [p2cast] at li
  change _ = 2 ^ a - ((fallI (2 ^ a) hue corner : Int) : Rat) at li
  have ni := nearE_int (top := 2 ^ c) (light := l) (Int.pow_pos (by decide)) (by rw [p2cast]; exact hl)
  rw [p2cast] at ni
  generalize cvP (((hue - corner : Int) : Rat) / (6 * 2 ^ a) + 1/3) = cc at *
  have e40 : (2 : Rat) ^ 40 = 2 ^ a * 2 ^ b * 2 ^ c := by rw [← pow_split, ← pow_split, habc]
  have ep : ((partI (2 ^ a) (2 ^ b) (2 ^ c) hue l s corner : Int) : Rat) = (l : Rat) * 2 ^ a * 2 ^ b + (s : Rat) * ((min l (2 ^ c - l) : Int) : Rat) * (2 ^ a - 2 * ((fallI (2 ^ a) hue corner : Int) : Rat)) := by
    unfold partI
    rw [Rat.intCast_add, Rat.intCast_mul, Rat.intCast_mul, Rat.intCast_mul, Rat.intCast_mul, Rat.intCast_sub, Rat.intCast_mul, p2cast, p2cast]; rfl
  constructor
  · apply cancelQ (t := 2 ^ 40) (by decide +kernel)
    rw [Rat.div_mul_cancel (pow_ne 40), ep, ← ni, ← hl, ← hs, e40, show ((fallI (2 ^ a) hue corner : Int) : Rat) = 2 ^ a - cc * 2 ^ a by rw [li]; grind]
    generalize nearE ρl = nn
    generalize (2 : Rat) ^ a = u
    generalize (2 : Rat) ^ b = v
    generalize (2 : Rat) ^ c = z
    grind
  · apply cancelQ pA
    have e : ((fallI (2 ^ a) hue corner : Int) : Rat) / 2 ^ a * 2 ^ a = ((fallI (2 ^ a) hue corner : Int) : Rat) := Rat.div_mul_cancel (pow_ne a)
    rw [li, ← e]
    generalize ((fallI (2 ^ a) hue corner : Int) : Rat) / 2 ^ a = t
    grind
end Mine

end
section
open PySem PySem.Float64
namespace Mine

theorem frac8 {k : Nat} {a : Int} (hk : k ≤ 53) (h0 : 0 ≤ a) (h1 : a ≤ 2 ^ k) : FF (divI a (2 ^ k)) ∧ fv (divI a (2 ^ k)) * 2 ^ k = a ∧ Gd k (fv (divI a (2 ^ k))) ∧ 0 ≤ fv (divI a (2 ^ k)) ∧ fv (divI a (2 ^ k)) ≤ 1 := by
  have pk : (0 : Int) < 2 ^ k := Int.pow_pos (by decide)
  obtain ⟨ρ, e0, p0, p1, f, e1, e2, q0, q1⟩ := frac_err (t := 2 ^ k) (a := a) (by omega) h0 h1
  have r := Rd_frac (a := a) (b := 2 ^ k) (by omega)
  rw [p2cast] at r
  have hc : (a : Rat) / 2 ^ k * 2 ^ k = a := Rat.div_mul_cancel (pow_ne k)
  have big : (2 : Int) ^ k ≤ 2 ^ 53 := by
    have := Nat.pow_le_pow_right (n := 2) (by decide) hk
    have := Int.ofNat_le.mpr this
    simpa using this
  have e := r.exact f (Rp_grid (k := k) (m := a) (by omega) (by omega) hc)
  refine ⟨f, ?_, ⟨a, by rw [e]; exact hc⟩, q0, q1⟩
  rw [e]; exact hc

theorem part_bd {a b c : Nat} {hue l s corner : Int} (habc : a + b + c = 40) (l0 : 0 ≤ l) (l1 : l ≤ 2 ^ c) (s0 : 0 ≤ s) (s1 : s ≤ 2 ^ b) :
    FF (divI (partI (2 ^ a) (2 ^ b) (2 ^ c) hue l s corner) 1099511627776) ∧ 0 ≤ partI (2 ^ a) (2 ^ b) (2 ^ c) hue l s corner ∧ partI (2 ^ a) (2 ^ b) (2 ^ c) hue l s corner ≤ 2 ^ 40 ∧
    fv (divI (partI (2 ^ a) (2 ^ b) (2 ^ c) hue l s corner) 1099511627776) = (fv (divI l (2 ^ c)) - fv (divI s (2 ^ b)) * nearE (fv (divI l (2 ^ c)))) + 2 * (fv (divI s (2 ^ b)) * nearE (fv (divI l (2 ^ c)))) * cvP (((hue - corner : Int) : Rat) / (6 * 2 ^ a) + 1/3) := by
  obtain ⟨fl, el, gl, l0', l1'⟩ := frac8 (k := c) (by omega) l0 l1
  obtain ⟨fs, es, gs, s0', s1'⟩ := frac8 (k := b) (by omega) s0 s1
  obtain ⟨pv, _⟩ := part_val (hue := hue) (corner := corner) habc el es l0 l1 s0 s1
  have nb := nearE_bd l0' l1'
  have cb := cvP_bd (((hue - corner : Int) : Rat) / (6 * 2 ^ a) + 1/3)
  have w0 := Rat.mul_nonneg s0' nb.1
  have w1 := Rat.mul_le_mul_of_nonneg_right s1' nb.1
  generalize cvP (((hue - corner : Int) : Rat) / (6 * 2 ^ a) + 1/3) = cc at *
  generalize fv (divI s (2 ^ b)) * nearE (fv (divI l (2 ^ c))) = ww at *
  have c0 := Rat.mul_nonneg w0 cb.1
  have c1 := Rat.mul_le_mul_of_nonneg_left cb.2 w0
  generalize hP : partI (2 ^ a) (2 ^ b) (2 ^ c) hue l s corner = P at *
  have hc : (P : Rat) / 2 ^ 40 * 2 ^ 40 = P := Rat.div_mul_cancel (pow_ne 40)
  have P0 : 0 ≤ P := by
    have : ((0 : Int) : Rat) ≤ (P : Rat) := by
      rw [← hc, pv, Rat.intCast_zero]
      exact Rat.mul_nonneg (by grind) (by decide +kernel)
    exact Rat.intCast_le_intCast.mp this
  have P1 : P ≤ 2 ^ 40 := by
    have : (P : Rat) ≤ ((2 ^ 40 : Int) : Rat) := by
      rw [← hc, pv, p2cast]
      have := Rat.mul_le_mul_of_nonneg_right (show fv (divI l (2 ^ c)) - ww + 2 * ww * cc ≤ 1 by grind) (show (0 : Rat) ≤ 2 ^ 40 by decide +kernel)
      grind
    exact Rat.intCast_le_intCast.mp this
  obtain ⟨f, e, _⟩ := frac8 (k := 40) (a := P) (by decide) P0 P1
  rw [show (2 : Int) ^ 40 = 1099511627776 from rfl] at f e
  refine ⟨f, P0, P1, ?_⟩
  rw [← pv]
  exact cancelQ (t := 2 ^ 40) (by decide +kernel) (by rw [e, hc])
/-- a component, rounded -/
theorem round8 {a b c : Nat} (habc : a + b + c = 40) {l s hue corner k : Int} {ha : UInt64} {ξ : Rat} (hl : 0 ≤ l ∧ l ≤ 2 ^ c) (hs : 0 ≤ s ∧ s ≤ 2 ^ b) (fa : FF ha) (e1 : fv ha - ξ ≤ 98 / 2^53) (e2 : ξ - fv ha ≤ 98 / 2^53) (hξ : ξ = (((hue - corner : Int) : Rat) / (6 * 2 ^ a) + 1/3) + k) :
    FF (Float64.mul (hlsC ha (divI l (2 ^ c)) (divI s (2 ^ b))) (Float64.ofInt 1099511627776)) ∧ roundF (Float64.mul (hlsC ha (divI l (2 ^ c)) (divI s (2 ^ b))) (Float64.ofInt 1099511627776)) = partI (2 ^ a) (2 ^ b) (2 ^ c) hue l s corner := by
  obtain ⟨fl, el, gl, l0, l1⟩ := frac8 (k := c) (by omega) hl.1 hl.2
  obtain ⟨fs, es, gs, s0, s1⟩ := frac8 (k := b) (by omega) hs.1 hs.2
  obtain ⟨_, P0, P1, _⟩ := part_bd (hue := hue) (corner := corner) habc hl.1 hl.2 hs.1 hs.2
  obtain ⟨fC, c1, c2⟩ := hlsC_err (E := 98 / 2^53) fa fl fs l0 l1 s0 s1 e1 e2
  obtain ⟨pv, _⟩ := part_val (hue := hue) (corner := corner) habc el es hl.1 hl.2 hs.1 hs.2
  rw [hξ, cvP_add, ← pv] at c1 c2
  obtain ⟨f4, e4⟩ := int_exact (a := 1099511627776) (by decide) (by decide)
  have e4 : fv (Float64.ofInt 1099511627776) = 2 ^ 40 := by rw [e4]; decide +kernel
  generalize hlsC ha (divI l (2 ^ c)) (divI s (2 ^ b)) = C at *
  generalize partI (2 ^ a) (2 ^ b) (2 ^ c) hue l s corner = P at *
  have hP : (P : Rat) / 2 ^ 40 * 2 ^ 40 = P := Rat.div_mul_cancel (pow_ne 40)
  have i0 := inn P0
  have i1 : (P : Rat) ≤ 2 ^ 40 := by have := icast_le P1; rwa [p2cast] at this
  have m := mulc (a := fv C) (b := (P : Rat) / 2 ^ 40) (x := 2 ^ 40) (c := 2 ^ 40) (e := 612 / 2^53) (by grind) (by grind) (by decide +kernel) (by decide +kernel) (by decide +kernel)
  rw [hP] at m
  have u : (612 / 2 ^ 53 * 2 ^ 40 : Rat) ≤ 3 / 8 := by decide +kernel
  have v : (2 ^ 40 + 3 / 8 : Rat) ≤ 2 ^ 49 := by decide +kernel
  have v' : (-2 ^ 49 : Rat) ≤ -(3 / 8) := by decide +kernel
  generalize (612 / 2 ^ 53 * 2 ^ 40 : Rat) = E at *
  have w1 := Rat.le_trans m.1 u
  have w2 := Rat.le_trans m.2 u
  refine times_round8 f4 fC (by rw [e4]; exact w1) (by rw [e4]; exact w2) ?_ ?_
  · rw [e4]; refine Rat.le_trans v' ?_; grind
  · rw [e4]; refine Rat.le_trans ?_ v; grind

theorem n08r {a b c : Nat} (habc : a + b + c = 40) {x l s : Int} (hl : 0 ≤ l ∧ l ≤ 2 ^ c) (hs : 0 ≤ s ∧ s ≤ 2 ^ b) :
    (FF (Float64.mul (hlsC (Float64.add (divI (x % (8 * 2 ^ a)) (2 ^ a)) 4599676419421066581) (divI l (2 ^ c)) (divI s (2 ^ b))) (Float64.ofInt 1099511627776)) ∧
    roundF (Float64.mul (hlsC (Float64.add (divI (x % (8 * 2 ^ a)) (2 ^ a)) 4599676419421066581) (divI l (2 ^ c)) (divI s (2 ^ b))) (Float64.ofInt 1099511627776)) = partI (2 ^ a) (2 ^ b) (2 ^ c) (x % 2 ^ a * 6) l s 0) ∧
    (FF (Float64.mul (hlsC (divI (x % (8 * 2 ^ a)) (2 ^ a)) (divI l (2 ^ c)) (divI s (2 ^ b))) (Float64.ofInt 1099511627776)) ∧
    roundF (Float64.mul (hlsC (divI (x % (8 * 2 ^ a)) (2 ^ a)) (divI l (2 ^ c)) (divI s (2 ^ b))) (Float64.ofInt 1099511627776)) = partI (2 ^ a) (2 ^ b) (2 ^ c) (x % 2 ^ a * 6) l s (2 * 2 ^ a)) ∧
    (FF (Float64.mul (hlsC (Float64.sub (divI (x % (8 * 2 ^ a)) (2 ^ a)) 4599676419421066581) (divI l (2 ^ c)) (divI s (2 ^ b))) (Float64.ofInt 1099511627776)) ∧
    roundF (Float64.mul (hlsC (Float64.sub (divI (x % (8 * 2 ^ a)) (2 ^ a)) 4599676419421066581) (divI l (2 ^ c)) (divI s (2 ^ b))) (Float64.ofInt 1099511627776)) = partI (2 ^ a) (2 ^ b) (2 ^ c) (x % 2 ^ a * 6) l s (4 * 2 ^ a)) := by
  have pa : (0 : Int) < 2 ^ a := Int.pow_pos (by decide)
  have pA : (0 : Rat) < 2 ^ a := Rat.pow_pos (by decide)
  have h0 := Int.emod_nonneg x (show 8 * 2 ^ a ≠ 0 by omega)
  have h1 := Int.emod_lt_of_pos x (show 0 < 8 * 2 ^ a by omega)
  obtain ⟨f0, ⟨a1, a2⟩, ⟨f1, b1, b2⟩, f2, c1, c2⟩ := hue_frac (hue := x % (8 * 2 ^ a)) pa (by omega) (by omega)
  rw [p2cast] at a1 a2 b1 b2 c1 c2
  have d : x % (8 * 2 ^ a) % 2 ^ a = x % 2 ^ a := Int.emod_emod_of_dvd x (Int.dvd_mul_left 8 (2 ^ a))
  have e := Int.mul_ediv_add_emod (x % (8 * 2 ^ a)) (2 ^ a)
  rw [d] at e
  have e' : ((x % (8 * 2 ^ a) : Int) : Rat) = 2 ^ a * ((x % (8 * 2 ^ a) / 2 ^ a : Int) : Rat) + ((x % 2 ^ a : Int) : Rat) := by
    have : ((2 ^ a * (x % (8 * 2 ^ a) / 2 ^ a) + x % 2 ^ a : Int) : Rat) = ((x % (8 * 2 ^ a) : Int) : Rat) := by rw [e]
    rw [← this, Rat.intCast_add, Rat.intCast_mul, p2cast]
  clear e d
  generalize x % (8 * 2 ^ a) / 2 ^ a = t at e'
  generalize x % (8 * 2 ^ a) = X8 at *
  generalize x % 2 ^ a = X at *
  refine ⟨round8 (k := t) habc hl hs f1 b1 b2 ?_, round8 (k := t) habc hl hs f0 (by grind) (by grind) (ξ := (X8 : Rat) / 2 ^ a) ?_, round8 (k := t) habc hl hs f2 c1 c2 ?_⟩
  · rw [e', Int.sub_zero, Rat.intCast_mul]; show _ = _ * (6 : Rat) / _ + _ + _; grind
  · rw [e', Rat.intCast_sub, Rat.intCast_mul, Rat.intCast_mul, p2cast]; show _ = (_ * (6 : Rat) - (2 : Rat) * _) / _ + _ + _; grind
  · rw [e', Rat.intCast_sub, Rat.intCast_mul, Rat.intCast_mul, p2cast]; show _ = (_ * (6 : Rat) - (4 : Rat) * _) / _ + _ + _; grind
end Mine

end
section
open PySem PySem.Float64
namespace Mine

theorem div_zero8 {b : Int} (h : 0 < b) : divI 0 b = 0 := by
  unfold divI
  have hb : ¬ b < 0 := by omega
  rw [show (decide ((0 : Int) < 0) != decide (b < 0)) = false by simp [hb], show (0 : Int).natAbs = 0 from rfl]
  obtain ⟨t, e, hle, hinf, hn⟩ := ofFrac_right (neg := false) (n := 0) (d := b.natAbs) (W := 0) (D := 1) (by omega) (by simp) (by decide)
  rw [e]
  have ht : t ≠ infMag := fun z => by
    have := hinf.mp z
    have p : 0 < (2 ^ 54 - 1) * 2 ^ 2045 := Nat.mul_pos (by decide) (Nat.two_pow_pos _)
    omega
  have n0 := (hn (by omega) 0).1
  have : t = 0 := by
    rcases Nat.eq_zero_or_pos t with z | z
    · exact z
    · have v := V_lt z
      rw [V_zero] at v n0
      unfold Float64.dist at n0
      omega
  rw [this]; decide +kernel

/-- the middle component in the first sixth -/
theorem ramp_exact8 {m1 m2 h : UInt64} {a d : Nat} (had : a + d ≤ 40) (f1 : FF m1) (f2 : FF m2) (a1 : 0 ≤ fv m1) (b2 : fv m2 ≤ 1) (g1 : Gd d (fv m1)) (g2 : Gd d (fv m2)) (d0 : fv m1 ≤ fv m2) (f : FF h) (gh : Gd a (fv h)) (h0 : 0 ≤ fv h) (h1 : fv h < 1/6) (h2 : fv h < 6004799503160661 / 2^55) :
    FF (vF m1 m2 h) ∧ fv (vF m1 m2 h) = fv m1 + (fv m2 - fv m1) * (6 * fv h) := by
  have u : (1 : Rat) * 2 ^ 40 ≤ 2 ^ 53 := by decide +kernel
  have mh := mod1_in f h0 (by grind)
  have fm := (mod1_spec f).1
  unfold vF
  rw [vT_eq fm, mh, if_pos h2]
  generalize mod1 h = x at *
  have r1 := Rd_sub f2 f1
  obtain ⟨k1, _⟩ := r1.err1 (by grind) (by grind)
  have gD : Gd d (fv m2 - fv m1) := Gd.sub g2 g1
  have e1 := r1.exact k1 (RpG (k := 40) (B := 1) (by decide) (gD.more (by omega)) (by grind) (by grind) u)
  generalize hD : fv m2 - fv m1 = D at *
  have r2 := Rd_mul k1 fm
  rw [e1, mh] at r2
  have gp : Gd 40 (D * fv h) := (Gd.mul gD gh).more (by omega)
  have p0 := Rat.mul_nonneg (show 0 ≤ D by grind) h0
  have p1 := mulb (a := D) (d := 1) (x := fv h) (c := 1/6) (by grind) (by grind) h0 (by grind)
  have p2 := Rat.mul_le_mul_of_nonneg_left (Rat.le_of_lt h1) (show 0 ≤ D by grind)
  obtain ⟨k2', _⟩ := r2.err1 (by grind) (by grind)
  have e2 := r2.exact k2' (RpG (k := 40) (B := 1) (by decide) gp (by grind) (by grind) u)
  have r3 := Rd_mul k2' k6.1
  rw [e2, k6.2, Rat.mul_comm] at r3
  obtain ⟨k3, _⟩ := r3.err1 (by grind) (by grind)
  have e3 := r3.exact k3 (RpG (k := 40) (B := 1) (by decide) (G6 gp) (by grind) (by grind) u)
  have r4 := Rd_add f1 k3
  rw [e3] at r4
  obtain ⟨k4', _⟩ := r4.err1 (by grind) (by grind)
  refine ⟨k4', ?_⟩
  rw [r4.exact k4' (RpG (k := 40) (B := 1) (by decide) (Gd.add (g1.more (by omega)) (G6 gp)) (by grind) (by grind) u)]
  grind

theorem sixth8 {X : Int} {a : Nat} {h : Rat} (j : Int) (e : h * 2 ^ a = X) (h0 : (j : Rat) / 6 ≤ h) (h1 : h < ((j + 1 : Int) : Rat) / 6) : X * 6 / 2 ^ a = j := by
  have pa : (0 : Int) < 2 ^ a := Int.pow_pos (by decide)
  have pA : (0 : Rat) < 2 ^ a := Rat.pow_pos (by decide)
  have a1 : j * 2 ^ a ≤ X * 6 := by
    have := Rat.mul_le_mul_of_nonneg_right h0 (Rat.le_of_lt pA)
    rw [e] at this
    have : ((j * 2 ^ a : Int) : Rat) ≤ ((X * 6 : Int) : Rat) := by
      rw [Rat.intCast_mul, Rat.intCast_mul, p2cast]; show _ ≤ _ * (6 : Rat); grind
    exact Rat.intCast_le_intCast.mp this
  have a2 : X * 6 < (j + 1) * 2 ^ a := by
    have := Rat.mul_lt_mul_of_pos_right h1 pA
    rw [e] at this
    have : ((X * 6 : Int) : Rat) < (((j + 1) * 2 ^ a : Int) : Rat) := by
      rw [Rat.intCast_mul, Rat.intCast_mul, p2cast]; show _ * (6 : Rat) < _; grind
    exact Rat.intCast_lt_intCast.mp this
  have b1 := Int.le_ediv_of_mul_le pa a1
  have b2 := Int.ediv_lt_of_lt_mul pa a2
  omega

/-- the sure ends, by sixths -/
theorem ends8 {m1 m2 h : UInt64} {k : Int} {a : Nat} (ha : a ≤ 38) (f : FF h) (e : fv h * 2 ^ a = k) (h0 : 0 ≤ fv h) (h1 : fv h < 1) (hz : k = 0 → h = 0) :
    (fv h < 1/6 → vF m1 m2 (Float64.add h 4599676419421066581) = m2 ∧ vF m1 m2 (Float64.sub h 4599676419421066581) = m1) ∧
    (1/6 ≤ fv h → fv h < 1/3 → vF m1 m2 h = m2 ∧ vF m1 m2 (Float64.sub h 4599676419421066581) = m1) ∧
    (1/3 ≤ fv h → fv h < 1/2 → vF m1 m2 (Float64.add h 4599676419421066581) = m1 ∧ vF m1 m2 h = m2) ∧
    (1/2 ≤ fv h → fv h < 2/3 → vF m1 m2 (Float64.add h 4599676419421066581) = m1 ∧ vF m1 m2 (Float64.sub h 4599676419421066581) = m2) ∧
    (2/3 ≤ fv h → fv h < 5/6 → vF m1 m2 h = m1 ∧ vF m1 m2 (Float64.sub h 4599676419421066581) = m2) ∧
    (5/6 ≤ fv h → vF m1 m2 (Float64.add h 4599676419421066581) = m2 ∧ vF m1 m2 h = m1) := by
  have m3 := pow_mod3 a
  obtain ⟨⟨ft, t1, t2⟩, fs, s1, s2⟩ := third_err f h0 (Rat.le_of_lt h1)
  have mh := mod1_in f h0 h1
  have fmh := (mod1_spec f).1
  have fmt := (mod1_spec ft).1
  have fms := (mod1_spec fs).1
  have q1 := away8 (j := 1) ha e (by omega)
  have q2 := away8 (j := 2) ha e (by omega)
  have q4 := away8 (j := 4) ha e (by omega)
  have q5 := away8 (j := 5) ha e (by omega)
  rw [show ((1 : Int) : Rat) = 1 from rfl] at q1
  rw [show ((2 : Int) : Rat) = 2 from rfl] at q2
  rw [show ((4 : Int) : Rat) = 4 from rfl] at q4
  rw [show ((5 : Int) : Rat) = 5 from rfl] at q5
  have up : fv h < 2/3 → fv (mod1 (Float64.add h 4599676419421066581)) = fv (Float64.add h 4599676419421066581) := fun c => mod1_in ft (by clear q1 q2 q4 q5; grind) (by clear q1 q2 q5; grind)
  have up' : 2/3 ≤ fv h → fv (mod1 (Float64.add h 4599676419421066581)) = fv (Float64.add h 4599676419421066581) - 1 := fun c => mod1_up ft (by clear q1 q2 q5; grind) (by clear q1 q2 q4 q5; grind)
  have dn : 1/3 ≤ fv h → fv (mod1 (Float64.sub h 4599676419421066581)) = fv (Float64.sub h 4599676419421066581) := fun c => mod1_in fs (by clear q1 q4 q5; grind) (by clear q1 q2 q4 q5; grind)
  have dn' : fv h < 1/3 → 6004799503160661 / 2^53 ≤ fv (mod1 (Float64.sub h 4599676419421066581)) := fun c => by
    by_cases z0 : k = 0
    · rw [hz z0, third_back]; decide +kernel
    · have hp : 1/2^38 ≤ fv h := by
        have pa : (0 : Rat) < 2 ^ a := Rat.pow_pos (by decide)
        have pl := pow_mono2 (a := a) (b := 38) ha
        have k1 : 1 ≤ k := by
          have : (0 : Rat) ≤ (k : Rat) := by rw [← e]; exact Rat.mul_nonneg h0 (Rat.le_of_lt pa)
          have : ((0 : Int) : Rat) ≤ (k : Rat) := by rw [Rat.intCast_zero]; exact this
          have := Rat.intCast_le_intCast.mp this
          omega
        have := icast_le k1
        rw [← e, Rat.intCast_one] at this
        apply Rat.le_of_mul_le_mul_right (c := (2 : Rat) ^ a) _ pa
        generalize (2 : Rat) ^ a = y at *
        clear q1 q2 q4 q5 t1 t2 s1 s2
        grind
      have mb := mod1_dn fs (by clear q1 q2 q4 q5; grind) (by clear q1 q4 q5; grind)
      clear q1 q2 q4 q5 t1 t2
      grind
  unfold vF
  refine ⟨fun c => ?_, fun b c => ?_, fun b c => ?_, fun b c => ?_, fun b c => ?_, fun b => ?_⟩
  · have mt := up (by clear q1 q2 q4 q5; grind)
    exact ⟨vT_m2 fmt (by clear q1 q2 q4 q5; grind) (by clear q2 q4 q5; grind), vT_m1 fms (dn' (by clear q1 q2 q4 q5; grind))⟩
  · exact ⟨vT_m2 fmh (by clear q1 q2 q4 q5; grind) (by clear q1 q2 q4 q5; grind), vT_m1 fms (dn' c)⟩
  · have mt := up (by clear q1 q2 q4 q5; grind)
    exact ⟨vT_m1 fmt (by clear q1 q4 q5; grind), vT_m2 fmh (by clear q1 q2 q4 q5; grind) (by clear q1 q2 q4 q5; grind)⟩
  · have mt := up c
    have mb := dn (by clear q1 q2 q4 q5; grind)
    have lo : 6004799503160661 / 2^55 ≤ fv (Float64.sub h 4599676419421066581) := by
      have r := Rd_sub f k3i.1
      rw [k3i.2] at r
      exact r.ge fs (by rw [← k6i.2]; exact Rp_fv k6i.1) (by clear q1 q2 q4 q5 t1 t2 s1 s2; grind)
    exact ⟨vT_m1 fmt (by clear q1 q2 q4 q5; grind), vT_m2 fms (by rw [mb]; exact lo) (by clear q1 q2 q4 q5; grind)⟩
  · have mb := dn (by clear q1 q2 q4 q5; grind)
    exact ⟨vT_m1 fmh (by clear q1 q2 q4 q5; grind), vT_m2 fms (by clear q1 q2 q4 q5; grind) (by clear q1 q2 q4; grind)⟩
  · have mt := up' (by clear q1 q2 q4 q5; grind)
    exact ⟨vT_m2 fmt (by clear q1 q2 q4; grind) (by clear q1 q2 q4 q5; grind), vT_m1 fmh (by clear q1 q2 q4 q5; grind)⟩

/-- which components are sure -/
noncomputable def sureN : List (List Nat) := [[0, 1, 2], [1, 2], [0, 1], [0, 2], [1, 2], [0, 1]]
noncomputable def eqC (x y : UInt64) : Prop := (Float64.cmp x y == some .eq) = true
noncomputable def pk3 {α : Type} (r g b : α) : Nat → α | 0 => r | 1 => g | _ => b

theorem two8 {j p0 p1 : Nat} {E : Nat → Prop} (hj : j < 6) (h : sureN[j]? = some [p0, p1]) (h0 : E p0) (h1 : E p1) : ∀ ps, sureN[j]? = some ps → ∀ p ∈ ps, E p := by
  intro ps hp p hm
  rw [h] at hp
  cases hp
  simp only [List.mem_cons, List.not_mem_nil, or_false] at hm
  rcases hm with rfl | rfl <;> assumption
theorem n08s {a b c : Nat} (habc : a + b + c = 40) (ha : 1 ≤ a) (hb : 1 ≤ b) (hc : 1 ≤ c) {X l s : Int} (hX : 0 ≤ X ∧ X < 2 ^ a) (hl : 0 ≤ l ∧ l ≤ 2 ^ c) (hs : 0 ≤ s ∧ s ≤ 2 ^ b) :
    ∃ j : Nat, j < 6 ∧ X * 6 / 2 ^ a = j ∧ ∀ ps, sureN[j]? = some ps → ∀ p ∈ ps, eqC (pk3 (hlsC (Float64.add (divI X (2 ^ a)) 4599676419421066581) (divI l (2 ^ c)) (divI s (2 ^ b))) (hlsC (divI X (2 ^ a)) (divI l (2 ^ c)) (divI s (2 ^ b))) (hlsC (Float64.sub (divI X (2 ^ a)) 4599676419421066581) (divI l (2 ^ c)) (divI s (2 ^ b))) p)
      (pk3 (divI (partI (2 ^ a) (2 ^ b) (2 ^ c) (X * 6) l s 0) 1099511627776) (divI (partI (2 ^ a) (2 ^ b) (2 ^ c) (X * 6) l s (2 * 2 ^ a)) 1099511627776) (divI (partI (2 ^ a) (2 ^ b) (2 ^ c) (X * 6) l s (4 * 2 ^ a)) 1099511627776) p) := by
  obtain ⟨fl, el, gl, l0, l1⟩ := frac8 (k := c) (by omega) hl.1 hl.2
  obtain ⟨fs, es, gs, s0, s1⟩ := frac8 (k := b) (by omega) hs.1 hs.2
  obtain ⟨fh, eh, gh, h0, h1⟩ := frac8 (k := a) (by omega) hX.1 (show X ≤ 2 ^ a by omega)
  obtain ⟨fR, _, _, vR⟩ := part_bd (hue := X * 6) (corner := 0) habc hl.1 hl.2 hs.1 hs.2
  obtain ⟨fG, _, _, vG⟩ := part_bd (hue := X * 6) (corner := 2 * 2 ^ a) habc hl.1 hl.2 hs.1 hs.2
  obtain ⟨fB, _, _, vB⟩ := part_bd (hue := X * 6) (corner := 4 * 2 ^ a) habc hl.1 hl.2 hs.1 hs.2
  generalize divI (partI (2 ^ a) (2 ^ b) (2 ^ c) (X * 6) l s 0) 1099511627776 = PR at *
  generalize divI (partI (2 ^ a) (2 ^ b) (2 ^ c) (X * 6) l s (2 * 2 ^ a)) 1099511627776 = PG at *
  generalize divI (partI (2 ^ a) (2 ^ b) (2 ^ c) (X * 6) l s (4 * 2 ^ a)) 1099511627776 = PB at *
  have pA : (0 : Rat) < 2 ^ a := Rat.pow_pos (by decide)
  have q0 : ((X * 6 - 0 : Int) : Rat) / (6 * 2 ^ a) + 1/3 = fv (divI X (2 ^ a)) + 1/3 := by
    rw [Int.sub_zero, Rat.intCast_mul, ← eh]; show _ * (6 : Rat) / _ + _ = _; grind
  have q1 : ((X * 6 - 2 * 2 ^ a : Int) : Rat) / (6 * 2 ^ a) + 1/3 = fv (divI X (2 ^ a)) := by
    rw [Rat.intCast_sub, Rat.intCast_mul, Rat.intCast_mul, p2cast, ← eh]; show (_ * (6 : Rat) - (2 : Rat) * _) / _ + _ = _; grind
  have q2 : ((X * 6 - 4 * 2 ^ a : Int) : Rat) / (6 * 2 ^ a) + 1/3 = fv (divI X (2 ^ a)) - 1/3 := by
    rw [Rat.intCast_sub, Rat.intCast_mul, Rat.intCast_mul, p2cast, ← eh]; show (_ * (6 : Rat) - (4 : Rat) * _) / _ + _ = _; grind
  rw [q0] at vR
  rw [q1] at vG
  rw [q2] at vB
  have hlt : fv (divI X (2 ^ a)) < 1 := by
    have := Rat.intCast_lt_intCast.mpr hX.2
    rw [← eh, p2cast] at this
    exact Rat.lt_of_mul_lt_mul_right (c := (2 : Rat) ^ a) (by grind) (Rat.le_of_lt pA)
  have hz : X = 0 → divI X (2 ^ a) = 0 := fun z => by subst z; exact div_zero8 (Int.pow_pos (by decide))
  obtain ⟨⟨ft, t1, t2⟩, fs3, c1, c2⟩ := third_err fh h0 h1
  have nb := nearE_bd l0 l1
  have w0 := Rat.mul_nonneg s0 nb.1
  have w1 := Rat.mul_le_mul_of_nonneg_right s1 nb.1
  obtain ⟨kk, ff, x1, x2, x3, sx⟩ := sext (fv (divI X (2 ^ a)))
  have kz : kk = 0 := by
    have a' : (kk : Rat) < ((1 : Int) : Rat) := by rw [Rat.intCast_one]; clear sx; grind
    have b' : ((-1 : Int) : Rat) < (kk : Rat) := by rw [Rat.intCast_neg, Rat.intCast_one]; clear sx; grind
    have a' := Rat.intCast_lt_intCast.mp a'
    have b' := Rat.intCast_lt_intCast.mp b'
    omega
  have hf : ff = fv (divI X (2 ^ a)) := by subst kz; rw [Rat.intCast_zero] at x1; clear sx; grind
  subst hf
  clear x1 kz kk
  -- all three alike
  by_cases flat : fv (divI s (2 ^ b)) * nearE (fv (divI l (2 ^ c))) = 0
  · have alike : ∀ x, FF x → FF (hlsC x (divI l (2 ^ c)) (divI s (2 ^ b))) ∧ fv (hlsC x (divI l (2 ^ c)) (divI s (2 ^ b))) = fv (divI l (2 ^ c)) := fun x fx => by
      unfold hlsC
      rw [cmp_eq fs fv0.1, fv0.2]
      by_cases z : fv (divI s (2 ^ b)) = 0
      · rw [if_pos (by simpa using z)]; exact ⟨fl, rfl⟩
      · rw [if_neg (by simpa using z)]
        obtain ⟨⟨f2, e2⟩, f1, e1⟩ := hlsM_exact8 (b := b) (c := c) (by omega) fl fs gl gs l0 l1 s0 s1
        rw [flat] at e1 e2
        have e1' : fv (hlsM1 (divI l (2 ^ c)) (divI s (2 ^ b))) = fv (divI l (2 ^ c)) := by rw [e1]; grind
        have := vF_flat (by rw [e1']; exact l0) (by rw [e1']; exact l1) f1 f2 fx (by rw [e1', e2]; grind)
        rw [e1'] at this; exact this
    rw [flat] at vR vG vB
    have zz : ∀ p q : Rat, p - 0 + 2 * 0 * q = p := fun p q => by grind
    have aR := alike _ ft
    have aG := alike _ fh
    have aB := alike _ fs3
    have all : ∀ p : Nat, eqC (pk3 (hlsC (Float64.add (divI X (2 ^ a)) 4599676419421066581) (divI l (2 ^ c)) (divI s (2 ^ b))) (hlsC (divI X (2 ^ a)) (divI l (2 ^ c)) (divI s (2 ^ b))) (hlsC (Float64.sub (divI X (2 ^ a)) 4599676419421066581) (divI l (2 ^ c)) (divI s (2 ^ b))) p) (pk3 PR PG PB p) := fun p => by
      match p with
      | 0 => exact ceq aR.1 fR (aR.2.trans (show _ = fv PR by rw [vR, zz]))
      | 1 => exact ceq aG.1 fG (aG.2.trans (show _ = fv PG by rw [vG, zz]))
      | (_ + 2) => exact ceq aB.1 fB (aB.2.trans (show _ = fv PB by rw [vB, zz]))
    clear vR vG vB aR aG aB
    have js : ∃ j : Nat, j < 6 ∧ X * 6 / 2 ^ a = j := by
      have pa : (0 : Int) < 2 ^ a := Int.pow_pos (by decide)
      have u1 := Int.ediv_lt_of_lt_mul (a := X * 6) (b := 6) pa (by omega)
      have u0 := Int.ediv_nonneg (show 0 ≤ X * 6 by omega) (Int.le_of_lt pa)
      exact ⟨(X * 6 / 2 ^ a).toNat, by omega, by omega⟩
    obtain ⟨j, j1, j2⟩ := js
    exact ⟨j, j1, j2, fun _ _ p _ => all p⟩
  have sne : ¬ fv (divI s (2 ^ b)) = 0 := fun z => flat (by rw [z]; grind)
  have un : ∀ x, hlsC x (divI l (2 ^ c)) (divI s (2 ^ b)) = vF (hlsM1 (divI l (2 ^ c)) (divI s (2 ^ b))) (hlsM2 (divI l (2 ^ c)) (divI s (2 ^ b))) x := fun x => by
    unfold hlsC
    rw [cmp_eq fs fv0.1, fv0.2, if_neg (by simpa using sne)]
  obtain ⟨⟨f2, e2⟩, f1, e1⟩ := hlsM_exact8 (b := b) (c := c) (by omega) fl fs gl gs l0 l1 s0 s1
  have gw : Gd (b + c) (fv (divI s (2 ^ b)) * nearE (fv (divI l (2 ^ c)))) := Gd.mul gs (Gd_near gl)
  have gl' : Gd (b + c) (fv (divI l (2 ^ c))) := gl.more (by omega)
  rw [un, un, un]
  clear un
  generalize hlsM1 (divI l (2 ^ c)) (divI s (2 ^ b)) = m1 at *
  generalize hlsM2 (divI l (2 ^ c)) (divI s (2 ^ b)) = m2 at *
  have wt := gw.tiny
  have pbc := pow_mono2 (a := b + c) (b := 39) (by omega)
  have pbc0 : (0 : Rat) < 2 ^ (b + c) := Rat.pow_pos (by decide)
  have inv : (1 : Rat) / 2 ^ 39 ≤ 1 / 2 ^ (b + c) := by
    have e : (1 : Rat) / 2 ^ (b + c) * 2 ^ (b + c) = 1 := Rat.div_mul_cancel (pow_ne _)
    apply Rat.le_of_mul_le_mul_right (c := (2 : Rat) ^ (b + c)) _ pbc0
    rw [e]
    generalize (2 : Rat) ^ (b + c) = y at *
    grind
  generalize (1 : Rat) / 2 ^ (b + c) = iv at *
  generalize fv (divI l (2 ^ c)) = L at *
  generalize fv (divI s (2 ^ b)) * nearE L = ww at *
  have g1 : Gd (b + c) (fv m1) := by rw [e1]; exact Gd.sub gl' gw
  have g2 : Gd (b + c) (fv m2) := by rw [e2]; exact Gd.add gl' gw
  have wpos : 1 / 2^39 ≤ ww := by grind
  have m10 : 0 ≤ fv m1 := by rw [e1]; grind
  have m21 : fv m2 ≤ 1 := by rw [e2]; grind
  have hD : fv m2 - fv m1 = 2 * ww := by rw [e1, e2]; grind
  have dg : Rp (fv m2 - fv m1) := RpG (k := 40) (B := 1) (by decide) ((Gd.sub g2 g1).more (by omega)) (by grind) (by grind) (by decide +kernel)
  obtain ⟨n1, n2, n3, n4, n5, n6⟩ := ends8 (m1 := m1) (m2 := m2) (k := X) (by omega) fh eh h0 hlt hz
  have away := away8 (j := 1) (by omega) eh (by have := pow_mod3 a; omega)
  have rmp := ramp_exact8 (h := divI X (2 ^ a)) (a := a) (d := b + c) (by omega) f1 f2 m10 m21 g1 g2 (by grind) fh gh h0
  clear wt pbc pbc0 inv g1 g2 gw gl gs gl' t1 t2 c1 c2 hz dg
  generalize vF m1 m2 (Float64.add (divI X (2 ^ a)) 4599676419421066581) = R at *
  generalize vF m1 m2 (divI X (2 ^ a)) = G at *
  generalize vF m1 m2 (Float64.sub (divI X (2 ^ a)) 4599676419421066581) = B at *
  have top : fv m2 = L - ww + 2 * ww * 1 := by rw [e2]; grind
  have bot : fv m1 = L - ww + 2 * ww * 0 := by rw [e1]; grind
  rcases sx with ⟨i1, sa, sb, sc⟩ | ⟨i0, i1, sa, sb, sc⟩ | ⟨i0, i1, sa, sb, sc⟩ | ⟨i0, i1, sa, sb, sc⟩ | ⟨i0, i1, sa, sb, sc⟩ | ⟨i0, sa, sb, sc⟩
  · obtain ⟨i2, i3⟩ := n1 i1
    clear n1 n2 n3 n4 n5 n6
    rw [sa] at vR
    rw [sb] at vG
    rw [sc] at vB
    obtain ⟨fg, eg⟩ := rmp i1 (by clear rmp vR vG vB; grind)
    refine ⟨0, by decide, sixth8 0 eh (by show (0 : Rat) / 6 ≤ _; grind) (by show _ < (1 : Rat) / 6; exact i1), ?_⟩
    rintro ps ⟨⟩ p hp
    simp only [List.mem_cons, List.not_mem_nil, or_false] at hp
    rcases hp with rfl | rfl | rfl
    · exact ceq (i2 ▸ f2 : FF R) fR (show fv R = fv PR by rw [vR, i2]; exact top)
    · exact ceq fg fG (show fv G = fv PG by rw [vG, eg]; grind)
    · exact ceq (i3 ▸ f1 : FF B) fB (show fv B = fv PB by rw [vB, i3]; exact bot)
  all_goals clear rmp away
  · obtain ⟨i2, i3⟩ := n2 i0 i1
    clear n1 n2 n3 n4 n5 n6
    rw [sb] at vG
    rw [sc] at vB
    refine ⟨1, by decide, sixth8 1 eh (by show (1 : Rat) / 6 ≤ _; exact i0) (by show _ < (2 : Rat) / 6; grind), two8 (by decide) rfl (ceq (i2 ▸ f2 : FF G) fG (show fv G = fv PG by rw [vG, i2]; exact top)) (ceq (i3 ▸ f1 : FF B) fB (show fv B = fv PB by rw [vB, i3]; exact bot))⟩
  · obtain ⟨i2, i3⟩ := n3 i0 i1
    clear n1 n2 n3 n4 n5 n6
    rw [sa] at vR
    rw [sb] at vG
    refine ⟨2, by decide, sixth8 2 eh (by show (2 : Rat) / 6 ≤ _; grind) (by show _ < (3 : Rat) / 6; grind), two8 (by decide) rfl (ceq (i2 ▸ f1 : FF R) fR (show fv R = fv PR by rw [vR, i2]; exact bot)) (ceq (i3 ▸ f2 : FF G) fG (show fv G = fv PG by rw [vG, i3]; exact top))⟩
  · obtain ⟨i2, i3⟩ := n4 i0 i1
    clear n1 n2 n3 n4 n5 n6
    rw [sa] at vR
    rw [sc] at vB
    refine ⟨3, by decide, sixth8 3 eh (by show (3 : Rat) / 6 ≤ _; grind) (by show _ < (4 : Rat) / 6; grind), two8 (by decide) rfl (ceq (i2 ▸ f1 : FF R) fR (show fv R = fv PR by rw [vR, i2]; exact bot)) (ceq (i3 ▸ f2 : FF B) fB (show fv B = fv PB by rw [vB, i3]; exact top))⟩
  · obtain ⟨i2, i3⟩ := n5 i0 i1
    clear n1 n2 n3 n4 n5 n6
    rw [sb] at vG
    rw [sc] at vB
    refine ⟨4, by decide, sixth8 4 eh (by show (4 : Rat) / 6 ≤ _; grind) (by show _ < (5 : Rat) / 6; exact i1), two8 (by decide) rfl (ceq (i2 ▸ f1 : FF G) fG (show fv G = fv PG by rw [vG, i2]; exact bot)) (ceq (i3 ▸ f2 : FF B) fB (show fv B = fv PB by rw [vB, i3]; exact top))⟩
  · obtain ⟨i2, i3⟩ := n6 i0
    clear n1 n2 n3 n4 n5 n6
    rw [sa] at vR
    rw [sb] at vG
    refine ⟨5, by decide, sixth8 5 eh (by show (5 : Rat) / 6 ≤ _; exact i0) (by show _ < (6 : Rat) / 6; grind), two8 (by decide) rfl (ceq (i2 ▸ f2 : FF R) fR (show fv R = fv PR by rw [vR, i2]; exact top)) (ceq (i3 ▸ f1 : FF G) fG (show fv G = fv PG by rw [vG, i3]; exact bot))⟩
end Mine

end
section
open PySem PySem.Float64
namespace Mine

/-- lightness and saturation of an exact colour -/
theorem ls_exact8 {M N l s : UInt64} {ww : Rat} (fM : FF M) (fN : FF N) (fl : FF l) (fs : FF s) (hw : fv s * nearE (fv l) = ww) (eM : fv M = fv l + ww) (eN : fv N = fv l - ww) (l0 : 0 ≤ fv l) (l1 : fv l ≤ 1) (s0 : 0 ≤ fv s) (s1 : fv s ≤ 1) (gl : Gd 40 (fv l)) (gw : Gd 40 ww) (w0 : 0 < ww) (w1 : ww ≤ nearE (fv l)) :
    (FF (litF M N) ∧ fv (litF M N) = fv l) ∧ FF (satF M N) ∧ fv (satF M N) = fv s := by
  have nb := nearE_bd l0 l1
  have u : (1 : Rat) * 2 ^ 40 ≤ 2 ^ 53 := by decide +kernel
  have u2 : (2 : Rat) * 2 ^ 40 ≤ 2 ^ 53 := by decide +kernel
  have ra := Rd_add fM fN
  rw [eM, eN, show fv l + ww + (fv l - ww) = 2 * fv l by grind] at ra
  obtain ⟨fa, _⟩ := ra.err2 (by grind) (by grind)
  have ea := ra.exact fa (dblRp (Rp_fv fl))
  have hL : FF (litF M N) ∧ fv (litF M N) = fv l := by
    unfold litF
    have rd := Rd_div fa k2.1 (by rw [k2.2]; decide)
    rw [ea, k2.2, show 2 * fv l / 2 = fv l by grind] at rd
    obtain ⟨fd, _⟩ := rd.err1 (by grind) l1
    exact ⟨fd, rd.exact fd (Rp_fv fl)⟩
  refine ⟨hL, ?_⟩
  unfold satF leF
  rw [cmp_le hL.1 kh.1, kh.2, hL.2]
  have rP := Rd_sub fM fN
  rw [eM, eN, show fv l + ww - (fv l - ww) = 2 * ww by grind] at rP
  obtain ⟨fP, _⟩ := rP.err1 (by grind) (by grind)
  have eP := rP.exact fP (dblRp (RpG (k := 40) (B := 1) (by decide) gw (by grind) (by grind) u))
  by_cases z : fv l ≤ 1/2
  · rw [if_pos (by simpa using z)]
    have en : nearE (fv l) = fv l := by unfold nearE; rw [if_pos z]
    rw [en] at hw
    have lp : 0 < fv l := by
      by_cases q : fv l = 0
      · rw [q] at hw; grind
      · grind
    have rd := Rd_div fP fa (by rw [ea]; grind)
    rw [ea, eP, ← hw, show 2 * (fv s * fv l) / (2 * fv l) = fv s by grind] at rd
    obtain ⟨fd, _⟩ := rd.err1 (by grind) s1
    exact ⟨fd, rd.exact fd (Rp_fv fs)⟩
  · rw [if_neg (by simpa using z)]
    have en : nearE (fv l) = 1 - fv l := by unfold nearE; rw [if_neg z]
    rw [en] at hw
    have r2' := Rd_sub k2.1 fM
    rw [k2.2, eM] at r2'
    obtain ⟨fc2, _⟩ := r2'.err2 (by grind) (by grind)
    have ec2 := r2'.exact fc2 (RpG (k := 40) (B := 2) (by decide) (Gd.sub Gd_two (Gd.add gl gw)) (by grind) (by grind) u2)
    have r3 := Rd_sub fc2 fN
    rw [ec2, eN, show 2 - (fv l + ww) - (fv l - ww) = 2 * (1 - fv l) by grind] at r3
    obtain ⟨fc, _⟩ := r3.err2 (by grind) (by grind)
    have ec := r3.exact fc (dblRp (RpG (k := 40) (B := 1) (by decide) (Gd.sub Gd_one gl) (by grind) (by grind) u))
    have lp : 0 < 1 - fv l := by
      by_cases q : 1 - fv l = 0
      · rw [q] at hw; grind
      · grind
    have rd := Rd_div fP fc (by rw [ec]; grind)
    rw [ec, eP, ← hw, show 2 * (fv s * (1 - fv l)) / (2 * (1 - fv l)) = fv s by grind] at rd
    obtain ⟨fd, _⟩ := rd.err1 (by grind) s1
    exact ⟨fd, rd.exact fd (Rp_fv fs)⟩

structure B8 (a b c : Nat) (hue l s : Int) (R G B : UInt64) : Prop where
  lit : eqC (toL R G B) (divI l (2 ^ c))
  sat : eqC (toS R G B) (divI s (2 ^ b))
  fin : FF (Float64.mul (Float64.mul (toH R G B) (Float64.ofInt 6)) (Float64.ofInt (2 ^ a)))
  rnd : roundF (Float64.mul (Float64.mul (toH R G B) (Float64.ofInt 6)) (Float64.ofInt (2 ^ a))) = hue
  third : hue % 3 = 0 → eqC (toH R G B) (divI hue (6 * 2 ^ a))

theorem pow_int8 {a : Nat} (ha : a ≤ 53) : FF (Float64.ofInt (2 ^ a)) ∧ fv (Float64.ofInt (2 ^ a)) = 2 ^ a := by
  have big : (2 : Int) ^ a ≤ 2 ^ 53 := by
    have := Nat.pow_le_pow_right (n := 2) (by decide) ha
    have := Int.ofNat_le.mpr this
    simpa using this
  have pos : (0 : Int) < 2 ^ a := Int.pow_pos (by decide)
  obtain ⟨f, e⟩ := int_exact (a := 2 ^ a) (by omega) (by omega)
  exact ⟨f, by rw [e, p2cast]⟩

/-- h * 6 * n rounded -/
theorem turn_round8 {H : UInt64} {x0 : Rat} {a : Nat} {hue : Int} (ha : a ≤ 38) (fH : FF H) (H0 : 0 ≤ fv H) (H1 : fv H ≤ 1) (e1 : fv H - x0 ≤ 1/2^53) (e2 : x0 - fv H ≤ 1/2^53) (ex : x0 * (6 * 2 ^ a) = hue) :
    FF (Float64.mul (Float64.mul H (Float64.ofInt 6)) (Float64.ofInt (2 ^ a))) ∧ roundF (Float64.mul (Float64.mul H (Float64.ofInt 6)) (Float64.ofInt (2 ^ a))) = hue := by
  obtain ⟨fp, ep⟩ := pow_int8 (a := a) (by omega)
  obtain ⟨f6, e6⟩ := int_exact (a := 6) (by decide) (by decide)
  have e6 : fv (Float64.ofInt 6) = 6 := e6
  have r := Rd_mul fH f6
  rw [e6] at r
  obtain ⟨g, p, q⟩ := r.err8 (by grind) (by grind)
  have pA : (0 : Rat) < 2 ^ a := Rat.pow_pos (by decide)
  have pl := pow_mono2 (a := a) (b := 38) ha
  have b := mulc (a := fv (Float64.mul H (Float64.ofInt 6))) (b := 6 * x0) (x := 2 ^ a) (c := 2 ^ 38) (e := 10/2^53) (by grind) (by grind) (Rat.le_of_lt pA) pl (by decide +kernel)
  have bb := mulb (a := fv (Float64.mul H (Float64.ofInt 6))) (d := 8) (x := 2 ^ a) (c := 2 ^ 38) (by grind) (by grind) (Rat.le_of_lt pA) pl
  have k1 : (10 / 2 ^ 53 * 2 ^ 38 : Rat) ≤ 1/8 := by decide +kernel
  have k2 : (8 * 2 ^ 38 : Rat) ≤ 2 ^ 49 := by decide +kernel
  have ex' : 6 * x0 * 2 ^ a = (hue : Rat) := by rw [← ex]; grind
  rw [ex'] at b
  refine times_round8 fp g ?_ ?_ ?_ ?_
  · rw [ep]; grind
  · rw [ep]; grind
  · rw [ep]
    generalize fv (Float64.mul H (Float64.ofInt 6)) * 2 ^ a = y at *
    generalize (8 * 2 ^ 38 : Rat) = K at *
    grind
  · rw [ep]
    generalize fv (Float64.mul H (Float64.ofInt 6)) * 2 ^ a = y at *
    generalize (8 * 2 ^ 38 : Rat) = K at *
    grind

theorem zero_hue8 {a : Nat} (ha : a ≤ 38) : FF (divI 0 (6 * 2 ^ a)) ∧ fv (divI 0 (6 * 2 ^ a)) = 0 := frac_zero (by have : (0 : Int) < 2 ^ a := Int.pow_pos (by decide); omega)

/-- a grey -/
theorem b8_grey {a b c : Nat} (ha : a ≤ 38) {l : Int} {R G B : UInt64} (fl : FF (divI l (2 ^ c))) (l0 : 0 ≤ fv (divI l (2 ^ c))) (l1 : fv (divI l (2 ^ c)) ≤ 1) (fr : FF R) (fg : FF G) (fb : FF B) (er : fv R = fv (divI l (2 ^ c))) (eg : fv G = fv (divI l (2 ^ c))) (eb : fv B = fv (divI l (2 ^ c))) : B8 a b c 0 l 0 R G B := by
  obtain ⟨fM, M1, M2, M3, M4⟩ := mx3_fv fr fg fb
  obtain ⟨fN, N1, N2, N3, N4⟩ := mn3_fv fr fg fb
  have eM : fv (mx3 R G B) = fv (divI l (2 ^ c)) := by rcases M4 with z | z | z <;> grind
  have eN : fv (mn3 R G B) = fv (divI l (2 ^ c)) := by rcases N4 with z | z | z <;> grind
  have gr : greyF R G B = true := by rw [grey_fv fr fg fb, eM, eN]; simp
  obtain ⟨fL, _, _, x, y⟩ := lit_err fM fN (by grind) (by grind) (by grind)
  have hH : toH R G B = 0 := by unfold toH; rw [if_pos gr]
  have hS : toS R G B = 0 := by unfold toS; rw [if_pos gr]
  have z2 := frac_zero (full := 2 ^ b) (by have : (0 : Int) < 2 ^ b := Int.pow_pos (by decide); omega)
  obtain ⟨t1, t2⟩ := turn_round8 (H := 0) (x0 := 0) (hue := 0) ha fv0.1 (by rw [fv0.2]; decide) (by rw [fv0.2]; decide) (by rw [fv0.2]; decide +kernel) (by rw [fv0.2]; decide +kernel) (by rw [Rat.intCast_zero]; grind)
  refine ⟨?_, ?_, ?_, ?_, fun _ => ?_⟩
  · unfold toL; exact ceq fL fl (by grind)
  · rw [hS]; exact ceq fv0.1 z2.1 (by rw [fv0.2, z2.2])
  · rw [hH]; exact t1
  · rw [hH]; exact t2
  · rw [hH]; exact ceq fv0.1 (zero_hue8 ha).1 (by rw [fv0.2, (zero_hue8 ha).2])

theorem n08b {a b c : Nat} (habc : a + b + c = 40) (ha : 1 ≤ a) (hb : 1 ≤ b) (hc : 1 ≤ c) {hue l s : Int} (hh : 0 ≤ hue ∧ hue < 6 * 2 ^ a) (hl : 0 ≤ l ∧ l ≤ 2 ^ c) (hs : 0 ≤ s ∧ s ≤ 2 ^ b) {R G B : UInt64}
    (eR : R = divI (partI (2 ^ a) (2 ^ b) (2 ^ c) hue l s 0) 1099511627776) (eG : G = divI (partI (2 ^ a) (2 ^ b) (2 ^ c) hue l s (2 * 2 ^ a)) 1099511627776) (eB : B = divI (partI (2 ^ a) (2 ^ b) (2 ^ c) hue l s (4 * 2 ^ a)) 1099511627776) :
    HlsOk R G B ∧ (s * l * (2 ^ c - l) = 0 → B8 a b c 0 l 0 R G B) ∧ (¬ s * l * (2 ^ c - l) = 0 → B8 a b c hue l s R G B) := by
  obtain ⟨fl, el, gl, l0, l1⟩ := frac8 (k := c) (by omega) hl.1 hl.2
  obtain ⟨fs, es, gs, s0, s1⟩ := frac8 (k := b) (by omega) hs.1 hs.2
  obtain ⟨fR, _, _, vR⟩ := part_bd (hue := hue) (corner := 0) habc hl.1 hl.2 hs.1 hs.2
  obtain ⟨fG, _, _, vG⟩ := part_bd (hue := hue) (corner := 2 * 2 ^ a) habc hl.1 hl.2 hs.1 hs.2
  obtain ⟨fB, _, _, vB⟩ := part_bd (hue := hue) (corner := 4 * 2 ^ a) habc hl.1 hl.2 hs.1 hs.2
  have yR := (part_val (hue := hue) (corner := 0) habc el es hl.1 hl.2 hs.1 hs.2).2
  have yG := (part_val (hue := hue) (corner := 2 * 2 ^ a) habc el es hl.1 hl.2 hs.1 hs.2).2
  have yB := (part_val (hue := hue) (corner := 4 * 2 ^ a) habc el es hl.1 hl.2 hs.1 hs.2).2
  rw [← eR] at fR vR
  rw [← eG] at fG vG
  rw [← eB] at fB vB
  clear eR eG eB
  have pa : (0 : Int) < 2 ^ a := Int.pow_pos (by decide)
  have pA : (0 : Rat) < 2 ^ a := Rat.pow_pos (by decide)
  have cur : ∀ j : Int, Gd a (1 - (j : Rat) / 2 ^ a) := fun j => Gd.sub Gd_one ⟨j, Rat.div_mul_cancel (pow_ne a)⟩
  have q0 : ((hue - 0 : Int) : Rat) / (6 * 2 ^ a) + 1/3 = (hue : Rat) / (6 * 2 ^ a) + 1/3 := by rw [Int.sub_zero]
  have q1 : ((hue - 2 * 2 ^ a : Int) : Rat) / (6 * 2 ^ a) + 1/3 = (hue : Rat) / (6 * 2 ^ a) := by
    rw [Rat.intCast_sub, Rat.intCast_mul, p2cast]; show (_ - (2 : Rat) * _) / _ + _ = _; grind
  have q2 : ((hue - 4 * 2 ^ a : Int) : Rat) / (6 * 2 ^ a) + 1/3 = (hue : Rat) / (6 * 2 ^ a) - 1/3 := by
    rw [Rat.intCast_sub, Rat.intCast_mul, p2cast]; show (_ - (4 : Rat) * _) / _ + _ = _; grind
  rw [q0] at vR yR
  rw [q1] at vG yG
  rw [q2] at vB yB
  have cR : Gd a (cvP ((hue : Rat) / (6 * 2 ^ a) + 1/3)) := by rw [yR]; exact cur _
  have cG : Gd a (cvP ((hue : Rat) / (6 * 2 ^ a))) := by rw [yG]; exact cur _
  have cB : Gd a (cvP ((hue : Rat) / (6 * 2 ^ a) - 1/3)) := by rw [yB]; exact cur _
  clear yR yG yB cur q0 q1 q2
  have ex : (hue : Rat) / (6 * 2 ^ a) * (6 * 2 ^ a) = hue := Rat.div_mul_cancel (by grind)
  have bR := cvP_bd ((hue : Rat) / (6 * 2 ^ a) + 1/3)
  have bG := cvP_bd ((hue : Rat) / (6 * 2 ^ a))
  have bB := cvP_bd ((hue : Rat) / (6 * 2 ^ a) - 1/3)
  have se := sext_ends ((hue : Rat) / (6 * 2 ^ a))
  have nb := nearE_bd l0 l1
  have w0 := Rat.mul_nonneg s0 nb.1
  have w1 := Rat.mul_le_mul_of_nonneg_right s1 nb.1
  have gw : Gd (b + c) (fv (divI s (2 ^ b)) * nearE (fv (divI l (2 ^ c)))) := Gd.mul gs (Gd_near gl)
  have ni : nearE (fv (divI l (2 ^ c))) * 2 ^ c = ((min l (2 ^ c - l) : Int) : Rat) := by
    have := nearE_int (top := 2 ^ c) (light := l) (Int.pow_pos (by decide)) (by rw [p2cast]; exact el)
    rwa [p2cast] at this
  generalize hww : fv (divI s (2 ^ b)) * nearE (fv (divI l (2 ^ c))) = ww at *
  have bd : ∀ q : Rat, 0 ≤ q → q ≤ 1 → 0 ≤ fv (divI l (2 ^ c)) - ww + 2 * ww * q ∧ fv (divI l (2 ^ c)) - ww + 2 * ww * q ≤ 1 := fun q h0 h1 => by
    have a1 := Rat.mul_nonneg w0 h0
    have a2 := Rat.mul_le_mul_of_nonneg_left h1 w0
    exact ⟨by grind, by grind⟩
  have dR := bd _ bR.1 bR.2
  have dG := bd _ bG.1 bG.2
  have dB := bd _ bB.1 bB.2
  refine ⟨HlsOk.of fR fG fB (by rw [vR]; exact dR.1) (by rw [vR]; exact dR.2) (by rw [vG]; exact dG.1) (by rw [vG]; exact dG.2) (by rw [vB]; exact dB.1) (by rw [vB]; exact dB.2), fun z => ?_, fun z => ?_⟩
  · have w00 : ww = 0 := by
      rcases Int.mul_eq_zero.mp z with y | y
      · rcases Int.mul_eq_zero.mp y with y | y
        · have : fv (divI s (2 ^ b)) = 0 := by
            rw [y]; exact (frac_zero (by have : (0 : Int) < 2 ^ b := Int.pow_pos (by decide); omega)).2
          rw [← hww, this]; grind
        · have : min l (2 ^ c - l) = 0 := by omega
          rw [this, Rat.intCast_zero] at ni
          have pC : (0 : Rat) < 2 ^ c := Rat.pow_pos (by decide)
          have : nearE (fv (divI l (2 ^ c))) = 0 := cancelQ pC (by rw [ni]; grind)
          rw [← hww, this]; grind
      · have : min l (2 ^ c - l) = 0 := by omega
        rw [this, Rat.intCast_zero] at ni
        have pC : (0 : Rat) < 2 ^ c := Rat.pow_pos (by decide)
        have : nearE (fv (divI l (2 ^ c))) = 0 := cancelQ pC (by rw [ni]; grind)
        rw [← hww, this]; grind
    rw [w00] at vR vG vB
    exact b8_grey (by omega) fl l0 l1 fR fG fB (by rw [vR]; grind) (by rw [vG]; grind) (by rw [vB]; grind)
  have wpos : 0 < ww := by
    have sp : 0 < fv (divI s (2 ^ b)) := by
      by_cases y : fv (divI s (2 ^ b)) = 0
      · rw [y] at es
        have : ((s : Int) : Rat) = ((0 : Int) : Rat) := by rw [Rat.intCast_zero, ← es]; grind
        have := Rat.intCast_inj.mp this
        rw [this] at z; simp at z
      · grind
    have np : 0 < nearE (fv (divI l (2 ^ c))) := by
      by_cases y : nearE (fv (divI l (2 ^ c))) = 0
      · rw [y] at ni
        have : ((min l (2 ^ c - l) : Int) : Rat) = ((0 : Int) : Rat) := by rw [Rat.intCast_zero, ← ni]; grind
        have := Rat.intCast_inj.mp this
        have : l = 0 ∨ 2 ^ c - l = 0 := by omega
        rcases this with q | q
        · rw [q] at z; simp at z
        · rw [q] at z; simp at z
      · grind
    rw [← hww]; exact Rat.mul_pos sp np
  clear ni
  have gw40 : Gd 40 ww := gw.more (by omega)
  have gl40 : Gd 40 (fv (divI l (2 ^ c))) := gl.more (by omega)
  obtain ⟨fM, M1, M2, M3, M4⟩ := mx3_fv fR fG fB
  obtain ⟨fN, N1, N2, N3, N4⟩ := mn3_fv fR fG fB
  have up : ∀ q : Rat, q ≤ 1 → 2 * ww * q ≤ 2 * ww := fun q h => by
    have := Rat.mul_le_mul_of_nonneg_left h (show 0 ≤ 2 * ww by grind); grind
  have dn : ∀ q : Rat, 0 ≤ q → 0 ≤ 2 * ww * q := fun q h => Rat.mul_nonneg (by grind) h
  have uR := up _ bR.2
  have uG := up _ bG.2
  have uB := up _ bB.2
  have nR := dn _ bR.1
  have nG := dn _ bG.1
  have nB := dn _ bB.1
  have eM : fv (mx3 R G B) = fv (divI l (2 ^ c)) + ww := by
    have le : fv (mx3 R G B) ≤ fv (divI l (2 ^ c)) + ww := by
      rcases M4 with y | y | y <;> rw [y]
      · rw [vR]; clear M1 M2 M3; grind
      · rw [vG]; clear M1 M2 M3; grind
      · rw [vB]; clear M1 M2 M3; grind
    have ge : fv (divI l (2 ^ c)) + ww ≤ fv (mx3 R G B) := by
      rcases se.1 with y | y | y
      · rw [y] at vR; grind
      · rw [y] at vG; grind
      · rw [y] at vB; grind
    grind
  have eN : fv (mn3 R G B) = fv (divI l (2 ^ c)) - ww := by
    have ge : fv (divI l (2 ^ c)) - ww ≤ fv (mn3 R G B) := by
      rcases N4 with y | y | y <;> rw [y]
      · rw [vR]; clear N1 N2 N3; grind
      · rw [vG]; clear N1 N2 N3; grind
      · rw [vB]; clear N1 N2 N3; grind
    have le : fv (mn3 R G B) ≤ fv (divI l (2 ^ c)) - ww := by
      rcases se.2 with y | y | y
      · rw [y] at vR; grind
      · rw [y] at vG; grind
      · rw [y] at vB; grind
    grind
  have hlt : fv (mn3 R G B) < fv (mx3 R G B) := by rw [eM, eN]; grind
  have gr : greyF R G B = false := by rw [grey_fv fR fG fB]; exact decide_eq_false (by grind)
  obtain ⟨⟨fL, eL⟩, fS, eS⟩ := ls_exact8 fM fN fl fs hww eM eN l0 l1 s0 s1 gl40 gw40 wpos (by grind)
  have hH : toH R G B = hueF (mx3 R G B) (mn3 R G B) R G B := by unfold toH; rw [gr]; simp
  have hS : toS R G B = satF (mx3 R G B) (mn3 R G B) := by unfold toS; rw [gr]; simp
  have gD : Gd (b + c) (2 * ww) := by
    have := Gd.add gw gw
    rwa [show ww + ww = 2 * ww by grind] at this
  have u : (1 : Rat) * 2 ^ 40 ≤ 2 ^ 53 := by decide +kernel
  have rp : ∀ q : Rat, Gd a q → 0 ≤ q → q ≤ 1 → Rp (2 * ww * (1 - q)) := fun q g h0 h1 => by
    have x1 := dn (1 - q) (by grind)
    have x2 := up (1 - q) (by grind)
    exact RpG (k := 40) (B := 1) (by decide) ((Gd.mul gD (Gd.sub Gd_one g)).more (by omega)) (by grind) (by grind) u
  have g6 : Gd a (6 * ((hue : Rat) / (6 * 2 ^ a))) := ⟨hue, by rw [← ex]; grind⟩
  obtain ⟨k, fh, eh, h1, h2⟩ := hue_exact (x0 := (hue : Rat) / (6 * 2 ^ a)) (N0 := fv (divI l (2 ^ c)) - ww) (D0 := 2 * ww) (a := a) (by omega) fM fN fR fG fB N1 M1 N2 M2 N3 M3 M4 N4 hlt (by rw [eM, eN]; grind) (by rw [eM]; grind) eN (by grind)
    (RpG (k := 40) (B := 1) (by decide) (gD.more (by omega)) (by grind) (by grind) u) vR vG vB cR cG cB (rp _ cR bR.1 bR.2) (rp _ cG bG.1 bG.2) (rp _ cB bB.1 bB.2) g6
  have xx : (hue : Rat) / (6 * 2 ^ a) = 0 ∨ (1/2^42 ≤ (hue : Rat) / (6 * 2 ^ a) ∧ (hue : Rat) / (6 * 2 ^ a) ≤ 1 - 1/2^42) := by
    have pl := pow_mono2 (a := a) (b := 38) (by omega)
    have k42 : (6 * 2 ^ 38 : Rat) ≤ 2 ^ 42 := by decide +kernel
    have kp : (0 : Rat) < 6 * 2 ^ a := by grind
    rcases Int.lt_or_le 0 hue with y | y
    · right
      have a1 := icast_le (show 1 ≤ hue by omega)
      have a2 := icast_le (show hue ≤ 6 * 2 ^ a - 1 by omega)
      rw [Rat.intCast_one] at a1
      rw [Rat.intCast_sub, Rat.intCast_mul, Rat.intCast_one, p2cast] at a2
      change _ ≤ (6 : Rat) * _ - 1 at a2
      rw [← ex] at a1 a2
      generalize (hue : Rat) / (6 * 2 ^ a) = x0 at *
      have i42 : (1 / 2 ^ 42 : Rat) * (6 * 2 ^ a) ≤ 1 := by
        have e : (1 / 2 ^ 42 : Rat) * 2 ^ 42 = 1 := by decide +kernel
        have := Rat.mul_le_mul_of_nonneg_left (show (6 * 2 ^ a : Rat) ≤ 2 ^ 42 by grind) (show (0 : Rat) ≤ 1 / 2 ^ 42 by decide +kernel)
        grind
      refine ⟨Rat.le_of_mul_le_mul_right (c := 6 * 2 ^ a) (by grind) kp, Rat.le_of_mul_le_mul_right (c := 6 * 2 ^ a) ?_ kp⟩
      rw [show (1 - 1 / 2 ^ 42 : Rat) * (6 * 2 ^ a) = 6 * 2 ^ a - (1 / 2 ^ 42 : Rat) * (6 * 2 ^ a) by grind]
      grind
    · left
      have : hue = 0 := by omega
      rw [this, Rat.intCast_zero]; grind
  obtain ⟨fHu, H0, H1, p1, p2, p3⟩ := hueF_of fh eh h1 h2 xx
  obtain ⟨t1, t2⟩ := turn_round8 (hue := hue) (by omega) fHu H0 H1 p1 p2 ex
  refine ⟨ceq fL fl eL, by rw [hS]; exact ceq fS fs eS, by rw [hH]; exact t1, by rw [hH]; exact t2, fun y => ?_⟩
  rw [hH]
  have g42 : Gd 42 ((hue : Rat) / (6 * 2 ^ a)) := by
    refine Gd.more (j := a + 1) ⟨hue / 3, ?_⟩ (by omega)
    have e3 : hue = 3 * (hue / 3) := by omega
    have e3' : (hue : Rat) = 3 * ((hue / 3 : Int) : Rat) := by
      have : ((3 * (hue / 3) : Int) : Rat) = (hue : Rat) := by rw [← e3]
      rw [← this, Rat.intCast_mul]; rfl
    rw [pow_split, show (2 : Rat) ^ 1 = 2 by decide +kernel]
    rw [e3'] at ex ⊢
    generalize (3 * ((hue / 3 : Int) : Rat)) / (6 * 2 ^ a) = x0 at *
    grind
  have rf := Rd_frac (a := hue) (b := 6 * 2 ^ a) (by omega)
  rw [Rat.intCast_mul, p2cast] at rf
  have rf : Rd (divI hue (6 * 2 ^ a)) ((hue : Rat) / (6 * 2 ^ a)) := rf
  have xb : 0 ≤ (hue : Rat) / (6 * 2 ^ a) ∧ (hue : Rat) / (6 * 2 ^ a) ≤ 1 := by rcases xx with y | y <;> grind
  obtain ⟨ff, _⟩ := rf.err1 (by grind) (by grind)
  have ef := rf.exact ff (RpG (k := 42) (B := 1) (by decide) g42 (by grind) (by grind) (by decide +kernel))
  exact ceq fHu ff (by rw [p3 g42, ef])
end Mine

end
section
open PySem PySem.Float64
namespace Mine

structure L8 (wide mean : Int) (R G B : UInt64) : Prop where
  ok : HlsOk R G B
  ok' : HsvOk R G B
  hue : eqC (toH R G B) (toH R G B)
  sat : 0 < wide → eqC (toS R G B) 4607182418800017408
  grey : ¬ 0 < wide → eqC (toS R G B) 0
  lit : (Float64.cmpInt (Float64.mul (toL R G B) (Float64.ofInt 9007199254740992)) mean == some .eq) = true ∨ (Float64.cmpInt (Float64.mul (toL R G B) (Float64.ofInt 9007199254740992)) (mean - wide % 2) == some .eq) = true

theorem min3 {x y z mn wide : Int} (h : mn = min (min x y) z) (h' : wide = max (max x y) z - mn) : (mn ≤ x ∧ mn ≤ y ∧ mn ≤ z) ∧ (x - mn = 0 ∨ y - mn = 0 ∨ z - mn = 0) ∧ (x - mn ≤ wide ∧ y - mn ≤ wide ∧ z - mn ≤ wide) ∧ (x - mn = wide ∨ y - mn = wide ∨ z - mn = wide) := by
  have h1 : max x y ≤ max (max x y) z := Int.le_max_left ..
  have h2 : z ≤ max (max x y) z := Int.le_max_right ..
  have h3 : max (max x y) z = max x y ∨ max (max x y) z = z := by omega
  have h4 : x ≤ max x y := Int.le_max_left ..
  have h5 : y ≤ max x y := Int.le_max_right ..
  have h6 : max x y = x ∨ max x y = y := by omega
  have g1 : min (min x y) z ≤ min x y := Int.min_le_left ..
  have g2 : min (min x y) z ≤ z := Int.min_le_right ..
  have g3 : min (min x y) z = min x y ∨ min (min x y) z = z := by omega
  have g4 : min x y ≤ x := Int.min_le_left ..
  have g5 : min x y ≤ y := Int.min_le_right ..
  have g6 : min x y = x ∨ min x y = y := by omega
  generalize max (max x y) z = A at *
  generalize max x y = A' at *
  generalize min (min x y) z = B at *
  generalize min x y = B' at *
  subst h
  subst h'
  refine ⟨⟨by omega, by omega, by omega⟩, by omega, ⟨by omega, by omega, by omega⟩, by omega⟩

theorem n08l {x y z mn wide : Int} (hx : 0 ≤ x ∧ x < 2 ^ 52) (hy : 0 ≤ y ∧ y < 2 ^ 52) (hz : 0 ≤ z ∧ z < 2 ^ 52) (hmn : mn = min (min x y) z) (hw : wide = max (max x y) z - mn) {R G B : UInt64}
    (eR : R = divI (9007199254740992 + mn - x) 9007199254740992) (eG : G = divI (9007199254740992 + mn - y) 9007199254740992) (eB : B = divI (9007199254740992 + mn - z) 9007199254740992) :
    L8 wide (9007199254740992 - wide / 2) R G B := by
  obtain ⟨⟨n1, n2, n3⟩, tp, ⟨o1, o2, o3⟩, bt⟩ := min3 hmn hw
  clear hmn hw
  have one : ∀ t : Int, 0 ≤ t → t < 2 ^ 52 → mn ≤ t → FF (divI (9007199254740992 + mn - t) 9007199254740992) ∧ fv (divI (9007199254740992 + mn - t) 9007199254740992) * 2 ^ 53 = 2 ^ 53 - ((t - mn : Int) : Rat) := fun t t0 t1 t2 => by
    obtain ⟨f, e, _⟩ := frac8 (k := 53) (a := 9007199254740992 + mn - t) (by decide) (by omega) (by omega)
    rw [show (2 : Int) ^ 53 = 9007199254740992 from rfl] at f e
    refine ⟨f, ?_⟩
    rw [e, show (9007199254740992 + mn - t : Int) = 2 ^ 53 - (t - mn) by omega, Rat.intCast_sub, p2cast]
  obtain ⟨fR, vR⟩ := one x hx.1 hx.2 (by omega)
  obtain ⟨fG, vG⟩ := one y hy.1 hy.2 (by omega)
  obtain ⟨fB, vB⟩ := one z hz.1 hz.2 (by omega)
  rw [← eR] at fR vR
  rw [← eG] at fG vG
  rw [← eB] at fB vB
  clear eR eG eB one
  have w0 : 0 ≤ wide := by omega
  have w1 : wide < 2 ^ 52 := by omega
  have ax : (0 : Rat) ≤ ((x - mn : Int) : Rat) ∧ ((x - mn : Int) : Rat) ≤ wide := ⟨inn (by omega), icast_le (by omega)⟩
  have ay : (0 : Rat) ≤ ((y - mn : Int) : Rat) ∧ ((y - mn : Int) : Rat) ≤ wide := ⟨inn (by omega), icast_le (by omega)⟩
  have az : (0 : Rat) ≤ ((z - mn : Int) : Rat) ∧ ((z - mn : Int) : Rat) ≤ wide := ⟨inn (by omega), icast_le (by omega)⟩
  have aw : (wide : Rat) ≤ 2 ^ 52 := by have := icast_le (show wide ≤ 2 ^ 52 by omega); rwa [p2cast] at this
  have top : ((x - mn : Int) : Rat) = 0 ∨ ((y - mn : Int) : Rat) = 0 ∨ ((z - mn : Int) : Rat) = 0 := by
    rcases tp with q | q | q
    · left; rw [q]; rfl
    · right; left; rw [q]; rfl
    · right; right; rw [q]; rfl
  have bot : ((x - mn : Int) : Rat) = wide ∨ ((y - mn : Int) : Rat) = wide ∨ ((z - mn : Int) : Rat) = wide := by
    rcases bt with q | q | q
    · left; rw [q]
    · right; left; rw [q]
    · right; right; rw [q]
  generalize ((x - mn : Int) : Rat) = X at *
  generalize ((y - mn : Int) : Rat) = Y at *
  generalize ((z - mn : Int) : Rat) = Z at *
  obtain ⟨fM, M1, M2, M3, M4⟩ := mx3_fv fR fG fB
  obtain ⟨fN, N1, N2, N3, N4⟩ := mn3_fv fR fG fB
  have eM : fv (mx3 R G B) = 1 := by
    have le : fv (mx3 R G B) ≤ 1 := by
      clear M1 M2 M3 top bot
      rcases M4 with q | q | q <;> rw [q] <;> grind
    have ge : 1 ≤ fv (mx3 R G B) := by
      clear bot M4
      rcases top with q | q | q
      · have : fv R = 1 := by grind
        grind
      · have : fv G = 1 := by grind
        grind
      · have : fv B = 1 := by grind
        grind
    grind
  have eN : fv (mn3 R G B) * 2 ^ 53 = 2 ^ 53 - (wide : Rat) := by
    have ge : 2 ^ 53 - (wide : Rat) ≤ fv (mn3 R G B) * 2 ^ 53 := by
      clear N1 N2 N3 top bot
      rcases N4 with q | q | q <;> rw [q] <;> grind
    have le : fv (mn3 R G B) * 2 ^ 53 ≤ 2 ^ 53 - (wide : Rat) := by
      clear top N4
      rcases bot with q | q | q
      · grind
      · grind
      · grind
    grind
  obtain ⟨fL, vL, hL⟩ := light_lit fM fN eM eN w0 w1
  have bdR : 0 ≤ fv R ∧ fv R ≤ 1 := by constructor <;> grind
  have bdG : 0 ≤ fv G ∧ fv G ≤ 1 := by constructor <;> grind
  have bdB : 0 ≤ fv B ∧ fv B ≤ 1 := by constructor <;> grind
  have gz : greyF R G B = decide (wide = 0) := by
    rw [grey_fv fR fG fB]
    congr 1
    apply propext
    constructor
    · intro h
      rw [h, eM] at eN
      have : (wide : Rat) = ((0 : Int) : Rat) := by rw [Rat.intCast_zero]; grind
      exact Rat.intCast_inj.mp this
    · intro h
      rw [h, Rat.intCast_zero] at eN
      rw [eM]; grind
  refine ⟨HlsOk.of fR fG fB bdR.1 bdR.2 bdG.1 bdG.2 bdB.1 bdB.2, HsvOk.of fR fG fB bdR.1 bdR.2 bdG.1 bdG.2 bdB.1 bdB.2, ?_, fun h => ?_, fun h => ?_, ?_⟩
  · have fH : FF (toH R G B) := by
      unfold toH
      by_cases q : wide = 0
      · rw [gz, decide_eq_true q, if_pos rfl]; exact fv0.1
      · rw [gz, decide_eq_false q]
        have wp : (0 : Rat) < wide := ipos (by omega)
        simp only [Bool.false_eq_true, if_false]
        exact hueF_fin fM fN fR fG fB N1 M1 N2 M2 N3 M3 (by grind) (by grind)
    exact ceq fH fH rfl
  · obtain ⟨fS, eS⟩ := light_sat fM fN eM eN h w1
    unfold toS
    rw [gz, decide_eq_false (by omega)]
    simp only [Bool.false_eq_true, if_false]
    exact ceq fS fv1.1 (by rw [eS, fv1.2])
  · unfold toS
    rw [gz, decide_eq_true (by omega), if_pos rfl]
    exact ceq fv0.1 fv0.1 rfl
  · obtain ⟨fp, ep⟩ := pow_int8 (a := 53) (by decide)
    rw [show (2 : Int) ^ 53 = 9007199254740992 from rfl] at fp ep
    have r := Rd_mul fL fp
    rw [ep] at r
    rw [show (2 : Int) ^ 53 = 9007199254740992 from rfl] at vL
    have ex : ∀ m : Int, 0 ≤ m → m ≤ 2 ^ 53 → fv (litF (mx3 R G B) (mn3 R G B)) * 2 ^ 53 = (m : Rat) → FF (Float64.mul (litF (mx3 R G B) (mn3 R G B)) (Float64.ofInt 9007199254740992)) ∧ fv (Float64.mul (litF (mx3 R G B) (mn3 R G B)) (Float64.ofInt 9007199254740992)) = m := fun m m0 m1 h => by
      rw [h] at r
      have i0 := inn m0
      have i1 : (m : Rat) ≤ 2 ^ 53 := by have := icast_le m1; rwa [p2cast] at this
      obtain ⟨f, _⟩ := r.errp 53 (by have : (-2 ^ 53 : Rat) ≤ 0 := by decide +kernel
                                     grind) i1
      exact ⟨f, r.exact f (Rp_grid (k := 0) (m := m) (by decide) (by omega) (by grind))⟩
    unfold toL
    rcases vL with q | q
    · left
      obtain ⟨f, e⟩ := ex _ (by omega) (by omega) q
      exact cmpInt_eq f e
    · right
      obtain ⟨f, e⟩ := ex _ (by omega) (by omega) q
      exact cmpInt_eq f e
end Mine

end
section
open PySem PySem.W PySem.Calls PyProof.Rows PySem.SeqAt
namespace Mine

theorem clip_nat (n j : Nat) : clipAt n (j : Int) = min j n := by
  unfold clipAt
  rw [if_neg (by omega)]
  omega
theorem cut_len3 (ns : List Int) (k : Int) (h0 : 0 ≤ k) : (cut ns (some k) (some (k + 3))).length ≤ 3 := by
  obtain ⟨j, rfl⟩ := Int.eq_ofNat_of_zero_le h0
  show (cut ns (some (j : Int)) (some ((j + 3 : Nat) : Int))).length ≤ 3
  unfold cut
  refine Nat.le_trans (List.length_take_le ..) ?_
  show clipAt _ _ - clipAt _ _ ≤ 3
  rw [clip_nat, clip_nat]
  omega
theorem three8 (ms : List Int) (h : ms.length ≤ 3) (q : Int) : ∃ x y z : Int, ms.map D.int ++ cut [D.int (-1), D.int q, D.int (-1)] (some (ms.length : Int)) none = [D.int x, D.int y, D.int z] := by
  match ms, h with
  | [], _ => exact ⟨_, _, _, rfl⟩
  | [_], _ => exact ⟨_, _, _, rfl⟩
  | [_, _], _ => exact ⟨_, _, _, rfl⟩
  | [_, _, _], _ => exact ⟨_, _, _, rfl⟩
theorem item3 {n : Int} {i : Nat} {d : D} (h : [D.int 0, D.int (2 * n), D.int (4 * n)][i]? = some d) : ∃ c, ([0, 2 * n, 4 * n] : List Int)[i]? = some c ∧ d = .int c := by
  match i, h with
  | 0, h => cases h; exact ⟨_, rfl, rfl⟩
  | 1, h => cases h; exact ⟨_, rfl, rfl⟩
  | 2, h => cases h; exact ⟨_, rfl, rfl⟩
  | (i + 3), h => simp at h
theorem take3 {α : Type} {xs : List α} {f : α → D} {i : Nat} {c : α} (h : xs[i]? = some c) : (xs.take i).map f ++ [f c] = (xs.take (i + 1)).map f := by
  rw [List.take_add_one, h]; simp
noncomputable def sureD : List D := [.lst [.int 0, .int 1, .int 2], .lst [.int 1, .int 2], .lst [.int 0, .int 1], .lst [.int 0, .int 2], .lst [.int 1, .int 2], .lst [.int 0, .int 1]]
theorem sure_at {j : Nat} (h : j < 6) : ∃ ps : List Nat, sureN[j]? = some ps ∧ sureD[j]? = some (.lst (ps.map fun (p : Nat) => D.int (p : Int))) ∧ (∀ p ∈ ps, p < 3) ∧ ps.length ≤ 3 := by
  match j, h with
  | 0, _ => exact ⟨_, rfl, rfl, by decide, by decide⟩
  | 1, _ => exact ⟨_, rfl, rfl, by decide, by decide⟩
  | 2, _ => exact ⟨_, rfl, rfl, by decide, by decide⟩
  | 3, _ => exact ⟨_, rfl, rfl, by decide, by decide⟩
  | 4, _ => exact ⟨_, rfl, rfl, by decide, by decide⟩
  | 5, _ => exact ⟨_, rfl, rfl, by decide, by decide⟩
theorem eqL_map {f g : D → D} : ∀ {ds : List D}, (∀ d ∈ ds, eqD (f d) (g d) = some true) → eqL (ds.map f) (ds.map g) = some true
  | [], _ => rfl
  | d :: ds, h => by
    have h1 := h d (List.mem_cons_self ..)
    have h2 := eqL_map (f := f) (g := g) (ds := ds) fun x hx => h x (List.mem_cons_of_mem _ hx)
    simp only [List.map_cons, eqL, h1, h2, Bool.and_true]
theorem eqD_flt {x y : UInt64} (h : eqC x y) : eqD (.flt x) (.flt y) = some true := by
  unfold eqC at h
  simp only [eqD, h, if_true]
theorem pow_bd8 {a : Nat} (h1 : 1 ≤ a) (h2 : a ≤ 38) : (2 : Int) ≤ 2 ^ a ∧ (2 : Int) ^ a ≤ 274877906944 := by
  have x := Nat.pow_le_pow_right (n := 2) (by decide) h1
  have y := Nat.pow_le_pow_right (n := 2) (by decide) h2
  have x' := Int.ofNat_le.mpr x
  have y' := Int.ofNat_le.mpr y
  simp at x' y'
  exact ⟨by simpa using x', by simpa using y'⟩
structure A8 (a b c : Nat) (x l s : Int) (R G B : UInt64) (P0 P1 P2 : Int) : Prop where
  fr : FF (Float64.mul R (Float64.ofInt 1099511627776))
  er : roundF (Float64.mul R (Float64.ofInt 1099511627776)) = P0
  fg : FF (Float64.mul G (Float64.ofInt 1099511627776))
  eg : roundF (Float64.mul G (Float64.ofInt 1099511627776)) = P1
  fb : FF (Float64.mul B (Float64.ofInt 1099511627776))
  eb : roundF (Float64.mul B (Float64.ofInt 1099511627776)) = P2
  bd : (0 ≤ P0 ∧ P0 ≤ 2 ^ 40) ∧ (0 ≤ P1 ∧ P1 ≤ 2 ^ 40) ∧ (0 ≤ P2 ∧ P2 ≤ 2 ^ 40)
  sure : ∃ ps : List Nat, sureD[(x % 2 ^ a * 6 / 2 ^ a).toNat]? = some (.lst (ps.map fun (p : Nat) => D.int (p : Int))) ∧ (∀ p ∈ ps, p < 3) ∧ ps.length ≤ 3 ∧ (x % (8 * 2 ^ a) < 2 ^ a → ∀ p ∈ ps, eqC (pk3 R G B p) (divI (pk3 P0 P1 P2 p) 1099511627776))

theorem n08a {a b c : Nat} (habc : a + b + c = 40) (ha : 1 ≤ a) (hb : 1 ≤ b) (hc : 1 ≤ c) {x l s : Int} (hl : 0 ≤ l ∧ l ≤ 2 ^ c) (hs : 0 ≤ s ∧ s ≤ 2 ^ b) :
    A8 a b c x l s (hlsC (Float64.add (divI (x % (8 * 2 ^ a)) (2 ^ a)) 4599676419421066581) (divI l (2 ^ c)) (divI s (2 ^ b))) (hlsC (divI (x % (8 * 2 ^ a)) (2 ^ a)) (divI l (2 ^ c)) (divI s (2 ^ b))) (hlsC (Float64.sub (divI (x % (8 * 2 ^ a)) (2 ^ a)) 4599676419421066581) (divI l (2 ^ c)) (divI s (2 ^ b)))
      (partI (2 ^ a) (2 ^ b) (2 ^ c) (x % 2 ^ a * 6) l s 0) (partI (2 ^ a) (2 ^ b) (2 ^ c) (x % 2 ^ a * 6) l s (2 * 2 ^ a)) (partI (2 ^ a) (2 ^ b) (2 ^ c) (x % 2 ^ a * 6) l s (4 * 2 ^ a)) := by
  obtain ⟨⟨fr, er⟩, ⟨fg, eg⟩, fb, eb⟩ := n08r (x := x) habc hl hs
  have pa : (0 : Int) < 2 ^ a := Int.pow_pos (by decide)
  have h0 := Int.emod_nonneg x (show (2 : Int) ^ a ≠ 0 by omega)
  have h1 := Int.emod_lt_of_pos x pa
  obtain ⟨j, j1, j2, hj⟩ := n08s habc ha hb hc (X := x % 2 ^ a) ⟨h0, h1⟩ hl hs
  obtain ⟨ps, p1, p2, p3, p4⟩ := sure_at j1
  obtain ⟨_, b1, b2, _⟩ := part_bd (hue := x % 2 ^ a * 6) (corner := 0) habc hl.1 hl.2 hs.1 hs.2
  obtain ⟨_, b3, b4, _⟩ := part_bd (hue := x % 2 ^ a * 6) (corner := 2 * 2 ^ a) habc hl.1 hl.2 hs.1 hs.2
  obtain ⟨_, b5, b6, _⟩ := part_bd (hue := x % 2 ^ a * 6) (corner := 4 * 2 ^ a) habc hl.1 hl.2 hs.1 hs.2
  refine ⟨fr, er, fg, eg, fb, eb, ⟨⟨b1, b2⟩, ⟨b3, b4⟩, b5, b6⟩, ps, by rw [j2]; exact p2, p3, p4, fun hx p hp => ?_⟩
  have e8 : x % (8 * 2 ^ a) = x % 2 ^ a := by
    have d : x % (8 * 2 ^ a) % 2 ^ a = x % 2 ^ a := Int.emod_emod_of_dvd x (Int.dvd_mul_left 8 (2 ^ a))
    rw [← d]
    exact (Int.emod_eq_of_lt (Int.emod_nonneg x (by omega)) hx).symm
  rw [e8]
  have := hj ps p1 p hp
  match p with
  | 0 => exact this
  | 1 => exact this
  | (_ + 2) => exact this
structure T8 (a b c : Nat) (hue l s : Int) (H L S : UInt64) : Prop where
  lit : eqC L (divI l (2 ^ c))
  sat : eqC S (divI s (2 ^ b))
  fin : FF (Float64.mul (Float64.mul H (Float64.ofInt 6)) (Float64.ofInt (2 ^ a)))
  rnd : roundF (Float64.mul (Float64.mul H (Float64.ofInt 6)) (Float64.ofInt (2 ^ a))) = hue
  third : hue % 3 = 0 → eqC H (divI hue (6 * 2 ^ a))
theorem B8.t {a b c : Nat} {hue l s : Int} {R G B : UInt64} (h : B8 a b c hue l s R G B) : T8 a b c hue l s (toH R G B) (toL R G B) (toS R G B) := ⟨h.lit, h.sat, h.fin, h.rnd, h.third⟩
theorem eqL2 {a b a' b' : UInt64} (h1 : eqC a a') (h2 : eqC b b') : eqL [.flt a, .flt b] [.flt a', .flt b'] = some true := by
  unfold eqC at h1 h2
  simp only [eqL, eqD, h1, h2, if_true, Bool.and_true]
theorem neC {a b : UInt64} (h : eqC a b) : (Float64.cmp a b != some .eq) = false := by
  unfold eqC at h
  unfold bne
  rw [h]; rfl
theorem mem3 {P : D → Prop} {a b c : D} (h0 : P a) (h1 : P b) (h2 : P c) (d : D) (h : d ∈ [a, b, c]) : P d := by
  simp only [List.mem_cons, List.not_mem_nil, or_false] at h
  rcases h with rfl | rfl | rfl <;> assumption
theorem get3 {α : Type} {f : α → D} {r g b : α} {p : Nat} (h : p < 3) : [f r, f g, f b][((p : Nat) : Int).toNat]? = some (f (pk3 r g b p)) := by
  match p, h with
  | 0, _ => rfl
  | 1, _ => rfl
  | 2, _ => rfl
theorem pk3_bd {a b c M : Int} (h0 : 0 ≤ a ∧ a ≤ M) (h1 : 0 ≤ b ∧ b ≤ M) (h2 : 0 ≤ c ∧ c ≤ M) (p : Nat) : 0 ≤ pk3 a b c p ∧ pk3 a b c p ≤ M := by
  match p with
  | 0 => exact h0
  | 1 => exact h1
  | (_ + 2) => exact h2
theorem len_cons {α : Type} {vs : List α} {n : Nat} (h : vs.length = n + 1) : ∃ a vs', vs = a :: vs' ∧ vs'.length = n := by
  cases vs with
  | nil => cases h
  | cons a vs => exact ⟨a, vs, rfl, Nat.succ.inj h⟩
theorem len_nil {α : Type} {vs : List α} (h : vs.length = 0) : vs = [] := by
  cases vs with
  | nil => rfl
  | cons a vs => cases h
theorem len3 {α : Type} {vs : List α} (h : vs.length = 3) : ∃ a b c, vs = [a, b, c] := by
  obtain ⟨a, v, rfl, h1⟩ := len_cons h
  obtain ⟨b, v, rfl, h2⟩ := len_cons h1
  obtain ⟨c, v, rfl, h3⟩ := len_cons h2
  rw [len_nil h3]
  exact ⟨a, b, c, rfl⟩
theorem len6 {α : Type} {vs : List α} (h : vs.length = 6) : ∃ a b c d e f, vs = [a, b, c, d, e, f] := by
  obtain ⟨a, v, rfl, h1⟩ := len_cons h
  obtain ⟨b, v, rfl, h2⟩ := len_cons h1
  obtain ⟨c, v, rfl, h3⟩ := len_cons h2
  obtain ⟨d, e, f, rfl⟩ := len3 h3
  exact ⟨a, b, c, d, e, f, rfl⟩
noncomputable def onInt (f : Int → D) : D → D
  | .int i => f i
  | d => d
noncomputable def onFlt (f : UInt64 → D) : D → D
  | .flt i => f i
  | d => d
end Mine

end
open PySem PySem.W PySem.Calls PyProof.Rows PySem.SeqAt
set_option maxRecDepth 100000
set_option maxHeartbeats 40000000
namespace Mine
end Mine
open Mine
theorem PySem.Challenge.cw_dm0025_08_holds : PySem.Challenge.rw_dm0025_08.Holds := by
  w_on; o_law; k_head; (case hw => w_witness2)
  k_fill
  intro w s₀ s₁ mg mb G Y fa o pm cd doc dV kV ho hd hcd hD hmg hg args vals as hpre hlay hrd hwl hlo
  have KX := kIn_of Y
  refine Ground.open G ?_
  intro T Bt Dt TE TW
  wrow_args hpre hlay hrd hwl hlo
  rename Well _ _ _ _ => hW
  rename ¬ (_ < _) => hlen
  have GB : Base s₁ mg mb := base_of KX T.g T.b T.builtins T.nolimit (by kernel_rfl)
  obtain ⟨f1, o1, pm1, cd1, doc1, hm1, ho1, hd1, hc1⟩ := T.fn _ (List.mem_of_find?_eq_some (p := fun e => decide (e.name = Str.ofString "_v")) (by with_unfolding_all rfl))
  obtain ⟨f2, o2, pm2, cd2, doc2, hm2, ho2, hd2, hc2⟩ := T.fn _ (List.mem_of_find?_eq_some (p := fun e => decide (e.name = Str.ofString "hls_to_rgb")) (by with_unfolding_all rfl))
  obtain ⟨f3, o3, pm3, cd3, doc3, hm3, ho3, hd3, hc3⟩ := T.fn _ (List.mem_of_find?_eq_some (p := fun e => decide (e.name = Str.ofString "rgb_to_hls")) (by with_unfolding_all rfl))
  obtain ⟨f4, o4, pm4, cd4, doc4, hm4, ho4, hd4, hc4⟩ := T.fn _ (List.mem_of_find?_eq_some (p := fun e => decide (e.name = Str.ofString "rgb_to_hsv")) (by with_unfolding_all rfl))
  obtain ⟨f5, o5, pm5, cd5, doc5, hm5, ho5, hd5, hc5⟩ := T.fn _ (List.mem_of_find?_eq_some (p := fun e => decide (e.name = Str.ofString "_law_parts")) (by with_unfolding_all rfl))
  have nmax : mg "max" = none := mg_none_of KX T.g (by kernel_rfl)
  have nmin : mg "min" = none := mg_none_of KX T.g (by kernel_rfl)
  have nlen : mg "len" = none := mg_none_of KX T.g (by kernel_rfl)
  have nrange : mg "range" = none := mg_none_of KX T.g (by kernel_rfl)
  have nround : mg "round" = none := mg_none_of KX T.g (by kernel_rfl)
  have ntype : mg "type" = none := mg_none_of KX T.g (by kernel_rfl)
  have ntuple : mg "tuple" = none := mg_none_of KX T.g (by kernel_rfl)
  have nfloat : mg "float" = none := mg_none_of KX T.g (by kernel_rfl)
  obtain ⟨t3, g3, n3⟩ : ∃ t, mg "ONE_THIRD" = some (.float 4599676419421066581 t) ∧ t ≠ 0 := mg_flt KX T.g (by kernel_rfl)
  obtain ⟨t6, g6, n6⟩ : ∃ t, mg "ONE_SIXTH" = some (.float 4595172819793696085 t) ∧ t ≠ 0 := mg_flt KX T.g (by kernel_rfl)
  obtain ⟨t23, g23, n23⟩ : ∃ t, mg "TWO_THIRD" = some (.float 4604180019048437077 t) ∧ t ≠ 0 := mg_flt KX T.g (by kernel_rfl)
  have vv : ∀ A, Rm 1 A → ∀ m1 m2 hue, WC PySem.Challenge.rw_dm0025_08.row.prog w s₁ A (.ref f1) [.flt m1, .flt m2, .flt hue] (fun d => d = .flt (vF m1 m2 hue)) := by
    intro A hA m1 m2 hue
    refine WC_doc GB hm1 ho1 hd1 hc1 (names := [Str.ofString "m1", Str.ofString "m2", Str.ofString "hue"]) hA.room rfl ?_ ?_ ?_
    · intro vals hl
      obtain ⟨a, b, c, rfl⟩ := len3 hl
      rfl
    · intro L y hy; simp only [List.mem_cons, List.not_mem_nil, or_false] at hy
      rcases hy with rfl | rfl | rfl
      · exact .inl rfl
      · exact .inl rfl
      · exact .inl rfl
    · intro L
      refine WS_cons (WX_assign (.inl rfl) ?_)
      repeat (first | ((with_reducible show WE _ _ _ _ _ _ (.BinOp _ _ _ _) _); refine WE_binop ?_) | ((with_reducible show WE _ _ _ _ _ _ (.Constant (.float _) _ _) _); refine WE_flt ?_) | ((with_reducible show WE _ _ _ _ _ _ (.Constant (.int _) _ _) _); refine WE_int ?_) | ((with_reducible show WE _ _ _ _ _ _ (.Constant (.bool _) _ _) _); refine WE_bool ?_) | ((with_reducible show WE _ _ _ _ _ _ (.Name _ _) _); first | refine WE_name rfl ?_ | refine WE_name (by assumption) ?_ | refine WE_name (comp_get (by assumption)) ?_) | ((with_reducible show WE _ _ _ _ _ _ (.Tuple _ _ _) _); refine WE_tuple ?_) | ((with_reducible show WE _ _ _ _ _ _ (.List _ _) _); refine WE_list ?_) | ((with_reducible show WE _ _ _ _ _ _ (.Subscript _ (.Slice _ _ none _) _) _); refine WE_cut ?_) | ((with_reducible show WE _ _ _ _ _ _ (.Subscript _ _ _) _); refine WE_item ?_) | ((with_reducible show WE _ _ _ _ _ _ (.UnaryOp _ _ _) _); refine WE_unary ?_) | ((with_reducible show WP _ _ _ _ _ _ (some _) _); refine WP_some ?_) | ((with_reducible show WP _ _ _ _ _ _ none _); refine WP_none ?_) | ((with_reducible show WEs _ _ _ _ _ _ (_ :: _) _); refine WEs_cons ?_) | ((with_reducible show WEs _ _ _ _ _ _ [] _); refine WEs_nil ?_) | ((with_reducible show BO _ _ _ .Mult (.flt _) (.flt _) _); refine BO_mul_ff ?_) | ((with_reducible show BO _ _ _ .Add (.flt _) (.flt _) _); refine BO_add_ff ?_) | ((with_reducible show BO _ _ _ .Sub (.flt _) (.flt _) _); refine BO_sub_ff ?_) | ((with_reducible show BO _ _ _ .Add (.int _) (.int _) _); refine BO_add_ii ?_) | ((with_reducible show BO _ _ _ .Sub (.int _) (.int _) _); refine BO_sub_ii ?_) | ((with_reducible show BO _ _ _ .Mult (.int _) (.int _) _); refine BO_mul_ii (by first | exact mulL (by omega) (by omega) | exact mulR (by omega) (by omega)) ?_) | ((with_reducible show BO _ _ _ .Pow (.int _) (.int _) _); first | refine BO_pow_eq pow40 (by decide) (by decide) ?_ | refine BO_pow_eq pow52 (by decide) (by decide) ?_ | refine BO_pow_eq pow53 (by decide) (by decide) ?_ | refine BO_pow2 (by omega) (by omega) ?_) | ((with_reducible show BO _ _ _ .Mod (.int _) (.int _) _); refine BO_mod_p (by omega) ?_) | ((with_reducible show BO _ _ _ .FloorDiv (.int _) (.int _) _); refine BO_div_p (by omega) (by omega) ?_) | ((with_reducible show BO _ _ _ .Div (.int _) (.int _) _); refine BO_div_s (Rm.handled (by first | assumption | apply_assumption)) (by omega) (by omega) (by omega) ?_) | ((with_reducible show IO _ _ _ (.tup _) (.int (OfNat.ofNat _)) _); refine IO_ti (by decide) rfl (by decide) ?_) | ((with_reducible show UO _ _ _ .USub (.int _) _); refine UO_neg_i ?_))
      refine BO_mod_ff (by decide +kernel) ?_
      unfold vF vT
      show WS _ _ _ _ _ (Store.set _ _ (.dat (.flt (mod1 hue)))) _ _
      generalize mod1 hue = h
      refine WS_cons (WX_if (WT_compare ?_))
      repeat (first | ((with_reducible show WE _ _ _ _ _ _ (.BinOp _ _ _ _) _); refine WE_binop ?_) | ((with_reducible show WE _ _ _ _ _ _ (.Constant (.float _) _ _) _); refine WE_flt ?_) | ((with_reducible show WE _ _ _ _ _ _ (.Constant (.int _) _ _) _); refine WE_int ?_) | ((with_reducible show WE _ _ _ _ _ _ (.Constant (.bool _) _ _) _); refine WE_bool ?_) | ((with_reducible show WE _ _ _ _ _ _ (.Name _ _) _); first | refine WE_name rfl ?_ | refine WE_name (by assumption) ?_ | refine WE_name (comp_get (by assumption)) ?_) | ((with_reducible show WE _ _ _ _ _ _ (.Tuple _ _ _) _); refine WE_tuple ?_) | ((with_reducible show WE _ _ _ _ _ _ (.List _ _) _); refine WE_list ?_) | ((with_reducible show WE _ _ _ _ _ _ (.Subscript _ (.Slice _ _ none _) _) _); refine WE_cut ?_) | ((with_reducible show WE _ _ _ _ _ _ (.Subscript _ _ _) _); refine WE_item ?_) | ((with_reducible show WE _ _ _ _ _ _ (.UnaryOp _ _ _) _); refine WE_unary ?_) | ((with_reducible show WP _ _ _ _ _ _ (some _) _); refine WP_some ?_) | ((with_reducible show WP _ _ _ _ _ _ none _); refine WP_none ?_) | ((with_reducible show WEs _ _ _ _ _ _ (_ :: _) _); refine WEs_cons ?_) | ((with_reducible show WEs _ _ _ _ _ _ [] _); refine WEs_nil ?_) | ((with_reducible show BO _ _ _ .Mult (.flt _) (.flt _) _); refine BO_mul_ff ?_) | ((with_reducible show BO _ _ _ .Add (.flt _) (.flt _) _); refine BO_add_ff ?_) | ((with_reducible show BO _ _ _ .Sub (.flt _) (.flt _) _); refine BO_sub_ff ?_) | ((with_reducible show BO _ _ _ .Add (.int _) (.int _) _); refine BO_add_ii ?_) | ((with_reducible show BO _ _ _ .Sub (.int _) (.int _) _); refine BO_sub_ii ?_) | ((with_reducible show BO _ _ _ .Mult (.int _) (.int _) _); refine BO_mul_ii (by first | exact mulL (by omega) (by omega) | exact mulR (by omega) (by omega)) ?_) | ((with_reducible show BO _ _ _ .Pow (.int _) (.int _) _); first | refine BO_pow_eq pow40 (by decide) (by decide) ?_ | refine BO_pow_eq pow52 (by decide) (by decide) ?_ | refine BO_pow_eq pow53 (by decide) (by decide) ?_ | refine BO_pow2 (by omega) (by omega) ?_) | ((with_reducible show BO _ _ _ .Mod (.int _) (.int _) _); refine BO_mod_p (by omega) ?_) | ((with_reducible show BO _ _ _ .FloorDiv (.int _) (.int _) _); refine BO_div_p (by omega) (by omega) ?_) | ((with_reducible show BO _ _ _ .Div (.int _) (.int _) _); refine BO_div_s (Rm.handled (by first | assumption | apply_assumption)) (by omega) (by omega) (by omega) ?_) | ((with_reducible show IO _ _ _ (.tup _) (.int (OfNat.ofNat _)) _); refine IO_ti (by decide) rfl (by decide) ?_) | ((with_reducible show UO _ _ _ .USub (.int _) _); refine UO_neg_i ?_))
      refine WE_global GB rfl g6 (fun _ _ => rep_flt n6) ?_
      refine CO_lt_ff ?_
      cases h1 : (Float64.cmp h 4595172819793696085 == some .lt) with
      | true =>
        refine WS_cons (WX_return ?_)
        repeat (first | ((with_reducible show WE _ _ _ _ _ _ (.BinOp _ _ _ _) _); refine WE_binop ?_) | ((with_reducible show WE _ _ _ _ _ _ (.Constant (.float _) _ _) _); refine WE_flt ?_) | ((with_reducible show WE _ _ _ _ _ _ (.Constant (.int _) _ _) _); refine WE_int ?_) | ((with_reducible show WE _ _ _ _ _ _ (.Constant (.bool _) _ _) _); refine WE_bool ?_) | ((with_reducible show WE _ _ _ _ _ _ (.Name _ _) _); first | refine WE_name rfl ?_ | refine WE_name (by assumption) ?_ | refine WE_name (comp_get (by assumption)) ?_) | ((with_reducible show WE _ _ _ _ _ _ (.Tuple _ _ _) _); refine WE_tuple ?_) | ((with_reducible show WE _ _ _ _ _ _ (.List _ _) _); refine WE_list ?_) | ((with_reducible show WE _ _ _ _ _ _ (.Subscript _ (.Slice _ _ none _) _) _); refine WE_cut ?_) | ((with_reducible show WE _ _ _ _ _ _ (.Subscript _ _ _) _); refine WE_item ?_) | ((with_reducible show WE _ _ _ _ _ _ (.UnaryOp _ _ _) _); refine WE_unary ?_) | ((with_reducible show WP _ _ _ _ _ _ (some _) _); refine WP_some ?_) | ((with_reducible show WP _ _ _ _ _ _ none _); refine WP_none ?_) | ((with_reducible show WEs _ _ _ _ _ _ (_ :: _) _); refine WEs_cons ?_) | ((with_reducible show WEs _ _ _ _ _ _ [] _); refine WEs_nil ?_) | ((with_reducible show BO _ _ _ .Mult (.flt _) (.flt _) _); refine BO_mul_ff ?_) | ((with_reducible show BO _ _ _ .Add (.flt _) (.flt _) _); refine BO_add_ff ?_) | ((with_reducible show BO _ _ _ .Sub (.flt _) (.flt _) _); refine BO_sub_ff ?_) | ((with_reducible show BO _ _ _ .Add (.int _) (.int _) _); refine BO_add_ii ?_) | ((with_reducible show BO _ _ _ .Sub (.int _) (.int _) _); refine BO_sub_ii ?_) | ((with_reducible show BO _ _ _ .Mult (.int _) (.int _) _); refine BO_mul_ii (by first | exact mulL (by omega) (by omega) | exact mulR (by omega) (by omega)) ?_) | ((with_reducible show BO _ _ _ .Pow (.int _) (.int _) _); first | refine BO_pow_eq pow40 (by decide) (by decide) ?_ | refine BO_pow_eq pow52 (by decide) (by decide) ?_ | refine BO_pow_eq pow53 (by decide) (by decide) ?_ | refine BO_pow2 (by omega) (by omega) ?_) | ((with_reducible show BO _ _ _ .Mod (.int _) (.int _) _); refine BO_mod_p (by omega) ?_) | ((with_reducible show BO _ _ _ .FloorDiv (.int _) (.int _) _); refine BO_div_p (by omega) (by omega) ?_) | ((with_reducible show BO _ _ _ .Div (.int _) (.int _) _); refine BO_div_s (Rm.handled (by first | assumption | apply_assumption)) (by omega) (by omega) (by omega) ?_) | ((with_reducible show IO _ _ _ (.tup _) (.int (OfNat.ofNat _)) _); refine IO_ti (by decide) rfl (by decide) ?_) | ((with_reducible show UO _ _ _ .USub (.int _) _); refine UO_neg_i ?_))
        rfl
      | false =>
        refine WS_nil ?_
        refine WS_cons (WX_if (WT_compare ?_))
        repeat (first | ((with_reducible show WE _ _ _ _ _ _ (.BinOp _ _ _ _) _); refine WE_binop ?_) | ((with_reducible show WE _ _ _ _ _ _ (.Constant (.float _) _ _) _); refine WE_flt ?_) | ((with_reducible show WE _ _ _ _ _ _ (.Constant (.int _) _ _) _); refine WE_int ?_) | ((with_reducible show WE _ _ _ _ _ _ (.Constant (.bool _) _ _) _); refine WE_bool ?_) | ((with_reducible show WE _ _ _ _ _ _ (.Name _ _) _); first | refine WE_name rfl ?_ | refine WE_name (by assumption) ?_ | refine WE_name (comp_get (by assumption)) ?_) | ((with_reducible show WE _ _ _ _ _ _ (.Tuple _ _ _) _); refine WE_tuple ?_) | ((with_reducible show WE _ _ _ _ _ _ (.List _ _) _); refine WE_list ?_) | ((with_reducible show WE _ _ _ _ _ _ (.Subscript _ (.Slice _ _ none _) _) _); refine WE_cut ?_) | ((with_reducible show WE _ _ _ _ _ _ (.Subscript _ _ _) _); refine WE_item ?_) | ((with_reducible show WE _ _ _ _ _ _ (.UnaryOp _ _ _) _); refine WE_unary ?_) | ((with_reducible show WP _ _ _ _ _ _ (some _) _); refine WP_some ?_) | ((with_reducible show WP _ _ _ _ _ _ none _); refine WP_none ?_) | ((with_reducible show WEs _ _ _ _ _ _ (_ :: _) _); refine WEs_cons ?_) | ((with_reducible show WEs _ _ _ _ _ _ [] _); refine WEs_nil ?_) | ((with_reducible show BO _ _ _ .Mult (.flt _) (.flt _) _); refine BO_mul_ff ?_) | ((with_reducible show BO _ _ _ .Add (.flt _) (.flt _) _); refine BO_add_ff ?_) | ((with_reducible show BO _ _ _ .Sub (.flt _) (.flt _) _); refine BO_sub_ff ?_) | ((with_reducible show BO _ _ _ .Add (.int _) (.int _) _); refine BO_add_ii ?_) | ((with_reducible show BO _ _ _ .Sub (.int _) (.int _) _); refine BO_sub_ii ?_) | ((with_reducible show BO _ _ _ .Mult (.int _) (.int _) _); refine BO_mul_ii (by first | exact mulL (by omega) (by omega) | exact mulR (by omega) (by omega)) ?_) | ((with_reducible show BO _ _ _ .Pow (.int _) (.int _) _); first | refine BO_pow_eq pow40 (by decide) (by decide) ?_ | refine BO_pow_eq pow52 (by decide) (by decide) ?_ | refine BO_pow_eq pow53 (by decide) (by decide) ?_ | refine BO_pow2 (by omega) (by omega) ?_) | ((with_reducible show BO _ _ _ .Mod (.int _) (.int _) _); refine BO_mod_p (by omega) ?_) | ((with_reducible show BO _ _ _ .FloorDiv (.int _) (.int _) _); refine BO_div_p (by omega) (by omega) ?_) | ((with_reducible show BO _ _ _ .Div (.int _) (.int _) _); refine BO_div_s (Rm.handled (by first | assumption | apply_assumption)) (by omega) (by omega) (by omega) ?_) | ((with_reducible show IO _ _ _ (.tup _) (.int (OfNat.ofNat _)) _); refine IO_ti (by decide) rfl (by decide) ?_) | ((with_reducible show UO _ _ _ .USub (.int _) _); refine UO_neg_i ?_))
        refine CO_lt_ff ?_
        cases h2 : (Float64.cmp h 4602678819172646912 == some .lt) with
        | true =>
          refine WS_cons (WX_return ?_)
          repeat (first | ((with_reducible show WE _ _ _ _ _ _ (.BinOp _ _ _ _) _); refine WE_binop ?_) | ((with_reducible show WE _ _ _ _ _ _ (.Constant (.float _) _ _) _); refine WE_flt ?_) | ((with_reducible show WE _ _ _ _ _ _ (.Constant (.int _) _ _) _); refine WE_int ?_) | ((with_reducible show WE _ _ _ _ _ _ (.Constant (.bool _) _ _) _); refine WE_bool ?_) | ((with_reducible show WE _ _ _ _ _ _ (.Name _ _) _); first | refine WE_name rfl ?_ | refine WE_name (by assumption) ?_ | refine WE_name (comp_get (by assumption)) ?_) | ((with_reducible show WE _ _ _ _ _ _ (.Tuple _ _ _) _); refine WE_tuple ?_) | ((with_reducible show WE _ _ _ _ _ _ (.List _ _) _); refine WE_list ?_) | ((with_reducible show WE _ _ _ _ _ _ (.Subscript _ (.Slice _ _ none _) _) _); refine WE_cut ?_) | ((with_reducible show WE _ _ _ _ _ _ (.Subscript _ _ _) _); refine WE_item ?_) | ((with_reducible show WE _ _ _ _ _ _ (.UnaryOp _ _ _) _); refine WE_unary ?_) | ((with_reducible show WP _ _ _ _ _ _ (some _) _); refine WP_some ?_) | ((with_reducible show WP _ _ _ _ _ _ none _); refine WP_none ?_) | ((with_reducible show WEs _ _ _ _ _ _ (_ :: _) _); refine WEs_cons ?_) | ((with_reducible show WEs _ _ _ _ _ _ [] _); refine WEs_nil ?_) | ((with_reducible show BO _ _ _ .Mult (.flt _) (.flt _) _); refine BO_mul_ff ?_) | ((with_reducible show BO _ _ _ .Add (.flt _) (.flt _) _); refine BO_add_ff ?_) | ((with_reducible show BO _ _ _ .Sub (.flt _) (.flt _) _); refine BO_sub_ff ?_) | ((with_reducible show BO _ _ _ .Add (.int _) (.int _) _); refine BO_add_ii ?_) | ((with_reducible show BO _ _ _ .Sub (.int _) (.int _) _); refine BO_sub_ii ?_) | ((with_reducible show BO _ _ _ .Mult (.int _) (.int _) _); refine BO_mul_ii (by first | exact mulL (by omega) (by omega) | exact mulR (by omega) (by omega)) ?_) | ((with_reducible show BO _ _ _ .Pow (.int _) (.int _) _); first | refine BO_pow_eq pow40 (by decide) (by decide) ?_ | refine BO_pow_eq pow52 (by decide) (by decide) ?_ | refine BO_pow_eq pow53 (by decide) (by decide) ?_ | refine BO_pow2 (by omega) (by omega) ?_) | ((with_reducible show BO _ _ _ .Mod (.int _) (.int _) _); refine BO_mod_p (by omega) ?_) | ((with_reducible show BO _ _ _ .FloorDiv (.int _) (.int _) _); refine BO_div_p (by omega) (by omega) ?_) | ((with_reducible show BO _ _ _ .Div (.int _) (.int _) _); refine BO_div_s (Rm.handled (by first | assumption | apply_assumption)) (by omega) (by omega) (by omega) ?_) | ((with_reducible show IO _ _ _ (.tup _) (.int (OfNat.ofNat _)) _); refine IO_ti (by decide) rfl (by decide) ?_) | ((with_reducible show UO _ _ _ .USub (.int _) _); refine UO_neg_i ?_))
          rfl
        | false =>
          refine WS_nil ?_
          refine WS_cons (WX_if (WT_compare ?_))
          repeat (first | ((with_reducible show WE _ _ _ _ _ _ (.BinOp _ _ _ _) _); refine WE_binop ?_) | ((with_reducible show WE _ _ _ _ _ _ (.Constant (.float _) _ _) _); refine WE_flt ?_) | ((with_reducible show WE _ _ _ _ _ _ (.Constant (.int _) _ _) _); refine WE_int ?_) | ((with_reducible show WE _ _ _ _ _ _ (.Constant (.bool _) _ _) _); refine WE_bool ?_) | ((with_reducible show WE _ _ _ _ _ _ (.Name _ _) _); first | refine WE_name rfl ?_ | refine WE_name (by assumption) ?_ | refine WE_name (comp_get (by assumption)) ?_) | ((with_reducible show WE _ _ _ _ _ _ (.Tuple _ _ _) _); refine WE_tuple ?_) | ((with_reducible show WE _ _ _ _ _ _ (.List _ _) _); refine WE_list ?_) | ((with_reducible show WE _ _ _ _ _ _ (.Subscript _ (.Slice _ _ none _) _) _); refine WE_cut ?_) | ((with_reducible show WE _ _ _ _ _ _ (.Subscript _ _ _) _); refine WE_item ?_) | ((with_reducible show WE _ _ _ _ _ _ (.UnaryOp _ _ _) _); refine WE_unary ?_) | ((with_reducible show WP _ _ _ _ _ _ (some _) _); refine WP_some ?_) | ((with_reducible show WP _ _ _ _ _ _ none _); refine WP_none ?_) | ((with_reducible show WEs _ _ _ _ _ _ (_ :: _) _); refine WEs_cons ?_) | ((with_reducible show WEs _ _ _ _ _ _ [] _); refine WEs_nil ?_) | ((with_reducible show BO _ _ _ .Mult (.flt _) (.flt _) _); refine BO_mul_ff ?_) | ((with_reducible show BO _ _ _ .Add (.flt _) (.flt _) _); refine BO_add_ff ?_) | ((with_reducible show BO _ _ _ .Sub (.flt _) (.flt _) _); refine BO_sub_ff ?_) | ((with_reducible show BO _ _ _ .Add (.int _) (.int _) _); refine BO_add_ii ?_) | ((with_reducible show BO _ _ _ .Sub (.int _) (.int _) _); refine BO_sub_ii ?_) | ((with_reducible show BO _ _ _ .Mult (.int _) (.int _) _); refine BO_mul_ii (by first | exact mulL (by omega) (by omega) | exact mulR (by omega) (by omega)) ?_) | ((with_reducible show BO _ _ _ .Pow (.int _) (.int _) _); first | refine BO_pow_eq pow40 (by decide) (by decide) ?_ | refine BO_pow_eq pow52 (by decide) (by decide) ?_ | refine BO_pow_eq pow53 (by decide) (by decide) ?_ | refine BO_pow2 (by omega) (by omega) ?_) | ((with_reducible show BO _ _ _ .Mod (.int _) (.int _) _); refine BO_mod_p (by omega) ?_) | ((with_reducible show BO _ _ _ .FloorDiv (.int _) (.int _) _); refine BO_div_p (by omega) (by omega) ?_) | ((with_reducible show BO _ _ _ .Div (.int _) (.int _) _); refine BO_div_s (Rm.handled (by first | assumption | apply_assumption)) (by omega) (by omega) (by omega) ?_) | ((with_reducible show IO _ _ _ (.tup _) (.int (OfNat.ofNat _)) _); refine IO_ti (by decide) rfl (by decide) ?_) | ((with_reducible show UO _ _ _ .USub (.int _) _); refine UO_neg_i ?_))
          refine WE_global GB rfl g23 (fun _ _ => rep_flt n23) ?_
          refine CO_lt_ff ?_
          cases h3 : (Float64.cmp h 4604180019048437077 == some .lt) with
          | true =>
            refine WS_cons (WX_return ?_)
            repeat (first | ((with_reducible show WE _ _ _ _ _ _ (.BinOp _ _ _ _) _); refine WE_binop ?_) | ((with_reducible show WE _ _ _ _ _ _ (.Constant (.float _) _ _) _); refine WE_flt ?_) | ((with_reducible show WE _ _ _ _ _ _ (.Constant (.int _) _ _) _); refine WE_int ?_) | ((with_reducible show WE _ _ _ _ _ _ (.Constant (.bool _) _ _) _); refine WE_bool ?_) | ((with_reducible show WE _ _ _ _ _ _ (.Name _ _) _); first | refine WE_name rfl ?_ | refine WE_name (by assumption) ?_ | refine WE_name (comp_get (by assumption)) ?_) | ((with_reducible show WE _ _ _ _ _ _ (.Tuple _ _ _) _); refine WE_tuple ?_) | ((with_reducible show WE _ _ _ _ _ _ (.List _ _) _); refine WE_list ?_) | ((with_reducible show WE _ _ _ _ _ _ (.Subscript _ (.Slice _ _ none _) _) _); refine WE_cut ?_) | ((with_reducible show WE _ _ _ _ _ _ (.Subscript _ _ _) _); refine WE_item ?_) | ((with_reducible show WE _ _ _ _ _ _ (.UnaryOp _ _ _) _); refine WE_unary ?_) | ((with_reducible show WP _ _ _ _ _ _ (some _) _); refine WP_some ?_) | ((with_reducible show WP _ _ _ _ _ _ none _); refine WP_none ?_) | ((with_reducible show WEs _ _ _ _ _ _ (_ :: _) _); refine WEs_cons ?_) | ((with_reducible show WEs _ _ _ _ _ _ [] _); refine WEs_nil ?_) | ((with_reducible show BO _ _ _ .Mult (.flt _) (.flt _) _); refine BO_mul_ff ?_) | ((with_reducible show BO _ _ _ .Add (.flt _) (.flt _) _); refine BO_add_ff ?_) | ((with_reducible show BO _ _ _ .Sub (.flt _) (.flt _) _); refine BO_sub_ff ?_) | ((with_reducible show BO _ _ _ .Add (.int _) (.int _) _); refine BO_add_ii ?_) | ((with_reducible show BO _ _ _ .Sub (.int _) (.int _) _); refine BO_sub_ii ?_) | ((with_reducible show BO _ _ _ .Mult (.int _) (.int _) _); refine BO_mul_ii (by first | exact mulL (by omega) (by omega) | exact mulR (by omega) (by omega)) ?_) | ((with_reducible show BO _ _ _ .Pow (.int _) (.int _) _); first | refine BO_pow_eq pow40 (by decide) (by decide) ?_ | refine BO_pow_eq pow52 (by decide) (by decide) ?_ | refine BO_pow_eq pow53 (by decide) (by decide) ?_ | refine BO_pow2 (by omega) (by omega) ?_) | ((with_reducible show BO _ _ _ .Mod (.int _) (.int _) _); refine BO_mod_p (by omega) ?_) | ((with_reducible show BO _ _ _ .FloorDiv (.int _) (.int _) _); refine BO_div_p (by omega) (by omega) ?_) | ((with_reducible show BO _ _ _ .Div (.int _) (.int _) _); refine BO_div_s (Rm.handled (by first | assumption | apply_assumption)) (by omega) (by omega) (by omega) ?_) | ((with_reducible show IO _ _ _ (.tup _) (.int (OfNat.ofNat _)) _); refine IO_ti (by decide) rfl (by decide) ?_) | ((with_reducible show UO _ _ _ .USub (.int _) _); refine UO_neg_i ?_))
            refine WE_global GB rfl g23 (fun _ _ => rep_flt n23) ?_
            repeat (first | ((with_reducible show WE _ _ _ _ _ _ (.BinOp _ _ _ _) _); refine WE_binop ?_) | ((with_reducible show WE _ _ _ _ _ _ (.Constant (.float _) _ _) _); refine WE_flt ?_) | ((with_reducible show WE _ _ _ _ _ _ (.Constant (.int _) _ _) _); refine WE_int ?_) | ((with_reducible show WE _ _ _ _ _ _ (.Constant (.bool _) _ _) _); refine WE_bool ?_) | ((with_reducible show WE _ _ _ _ _ _ (.Name _ _) _); first | refine WE_name rfl ?_ | refine WE_name (by assumption) ?_ | refine WE_name (comp_get (by assumption)) ?_) | ((with_reducible show WE _ _ _ _ _ _ (.Tuple _ _ _) _); refine WE_tuple ?_) | ((with_reducible show WE _ _ _ _ _ _ (.List _ _) _); refine WE_list ?_) | ((with_reducible show WE _ _ _ _ _ _ (.Subscript _ (.Slice _ _ none _) _) _); refine WE_cut ?_) | ((with_reducible show WE _ _ _ _ _ _ (.Subscript _ _ _) _); refine WE_item ?_) | ((with_reducible show WE _ _ _ _ _ _ (.UnaryOp _ _ _) _); refine WE_unary ?_) | ((with_reducible show WP _ _ _ _ _ _ (some _) _); refine WP_some ?_) | ((with_reducible show WP _ _ _ _ _ _ none _); refine WP_none ?_) | ((with_reducible show WEs _ _ _ _ _ _ (_ :: _) _); refine WEs_cons ?_) | ((with_reducible show WEs _ _ _ _ _ _ [] _); refine WEs_nil ?_) | ((with_reducible show BO _ _ _ .Mult (.flt _) (.flt _) _); refine BO_mul_ff ?_) | ((with_reducible show BO _ _ _ .Add (.flt _) (.flt _) _); refine BO_add_ff ?_) | ((with_reducible show BO _ _ _ .Sub (.flt _) (.flt _) _); refine BO_sub_ff ?_) | ((with_reducible show BO _ _ _ .Add (.int _) (.int _) _); refine BO_add_ii ?_) | ((with_reducible show BO _ _ _ .Sub (.int _) (.int _) _); refine BO_sub_ii ?_) | ((with_reducible show BO _ _ _ .Mult (.int _) (.int _) _); refine BO_mul_ii (by first | exact mulL (by omega) (by omega) | exact mulR (by omega) (by omega)) ?_) | ((with_reducible show BO _ _ _ .Pow (.int _) (.int _) _); first | refine BO_pow_eq pow40 (by decide) (by decide) ?_ | refine BO_pow_eq pow52 (by decide) (by decide) ?_ | refine BO_pow_eq pow53 (by decide) (by decide) ?_ | refine BO_pow2 (by omega) (by omega) ?_) | ((with_reducible show BO _ _ _ .Mod (.int _) (.int _) _); refine BO_mod_p (by omega) ?_) | ((with_reducible show BO _ _ _ .FloorDiv (.int _) (.int _) _); refine BO_div_p (by omega) (by omega) ?_) | ((with_reducible show BO _ _ _ .Div (.int _) (.int _) _); refine BO_div_s (Rm.handled (by first | assumption | apply_assumption)) (by omega) (by omega) (by omega) ?_) | ((with_reducible show IO _ _ _ (.tup _) (.int (OfNat.ofNat _)) _); refine IO_ti (by decide) rfl (by decide) ?_) | ((with_reducible show UO _ _ _ .USub (.int _) _); refine UO_neg_i ?_))
            rfl
          | false =>
            refine WS_nil ?_
            refine WS_cons (WX_return ?_)
            repeat (first | ((with_reducible show WE _ _ _ _ _ _ (.BinOp _ _ _ _) _); refine WE_binop ?_) | ((with_reducible show WE _ _ _ _ _ _ (.Constant (.float _) _ _) _); refine WE_flt ?_) | ((with_reducible show WE _ _ _ _ _ _ (.Constant (.int _) _ _) _); refine WE_int ?_) | ((with_reducible show WE _ _ _ _ _ _ (.Constant (.bool _) _ _) _); refine WE_bool ?_) | ((with_reducible show WE _ _ _ _ _ _ (.Name _ _) _); first | refine WE_name rfl ?_ | refine WE_name (by assumption) ?_ | refine WE_name (comp_get (by assumption)) ?_) | ((with_reducible show WE _ _ _ _ _ _ (.Tuple _ _ _) _); refine WE_tuple ?_) | ((with_reducible show WE _ _ _ _ _ _ (.List _ _) _); refine WE_list ?_) | ((with_reducible show WE _ _ _ _ _ _ (.Subscript _ (.Slice _ _ none _) _) _); refine WE_cut ?_) | ((with_reducible show WE _ _ _ _ _ _ (.Subscript _ _ _) _); refine WE_item ?_) | ((with_reducible show WE _ _ _ _ _ _ (.UnaryOp _ _ _) _); refine WE_unary ?_) | ((with_reducible show WP _ _ _ _ _ _ (some _) _); refine WP_some ?_) | ((with_reducible show WP _ _ _ _ _ _ none _); refine WP_none ?_) | ((with_reducible show WEs _ _ _ _ _ _ (_ :: _) _); refine WEs_cons ?_) | ((with_reducible show WEs _ _ _ _ _ _ [] _); refine WEs_nil ?_) | ((with_reducible show BO _ _ _ .Mult (.flt _) (.flt _) _); refine BO_mul_ff ?_) | ((with_reducible show BO _ _ _ .Add (.flt _) (.flt _) _); refine BO_add_ff ?_) | ((with_reducible show BO _ _ _ .Sub (.flt _) (.flt _) _); refine BO_sub_ff ?_) | ((with_reducible show BO _ _ _ .Add (.int _) (.int _) _); refine BO_add_ii ?_) | ((with_reducible show BO _ _ _ .Sub (.int _) (.int _) _); refine BO_sub_ii ?_) | ((with_reducible show BO _ _ _ .Mult (.int _) (.int _) _); refine BO_mul_ii (by first | exact mulL (by omega) (by omega) | exact mulR (by omega) (by omega)) ?_) | ((with_reducible show BO _ _ _ .Pow (.int _) (.int _) _); first | refine BO_pow_eq pow40 (by decide) (by decide) ?_ | refine BO_pow_eq pow52 (by decide) (by decide) ?_ | refine BO_pow_eq pow53 (by decide) (by decide) ?_ | refine BO_pow2 (by omega) (by omega) ?_) | ((with_reducible show BO _ _ _ .Mod (.int _) (.int _) _); refine BO_mod_p (by omega) ?_) | ((with_reducible show BO _ _ _ .FloorDiv (.int _) (.int _) _); refine BO_div_p (by omega) (by omega) ?_) | ((with_reducible show BO _ _ _ .Div (.int _) (.int _) _); refine BO_div_s (Rm.handled (by first | assumption | apply_assumption)) (by omega) (by omega) (by omega) ?_) | ((with_reducible show IO _ _ _ (.tup _) (.int (OfNat.ofNat _)) _); refine IO_ti (by decide) rfl (by decide) ?_) | ((with_reducible show UO _ _ _ .USub (.int _) _); refine UO_neg_i ?_))
            rfl
  have fromHls : ∀ A, Rm 2 A → ∀ h l s, WC PySem.Challenge.rw_dm0025_08.row.prog w s₁ A (.ref f2) [.flt h, .flt l, .flt s] (fun d => d = .tup [.flt (hlsC (Float64.add h 4599676419421066581) l s), .flt (hlsC h l s), .flt (hlsC (Float64.sub h 4599676419421066581) l s)]) := by
    intro A hA h l s
    refine WC_doc GB hm2 ho2 hd2 hc2 (names := [Str.ofString "h", Str.ofString "l", Str.ofString "s"]) hA.room rfl ?_ ?_ ?_
    · intro vals hl
      obtain ⟨a, b, c, rfl⟩ := len3 hl
      rfl
    · intro L y hy; simp only [List.mem_cons, List.not_mem_nil, or_false] at hy
      rcases hy with rfl | rfl | rfl
      · exact .inl rfl
      · exact .inl rfl
      · exact .inl rfl
    · intro L
      refine WS_cons (WX_if (WT_compare ?_))
      repeat (first | ((with_reducible show WE _ _ _ _ _ _ (.BinOp _ _ _ _) _); refine WE_binop ?_) | ((with_reducible show WE _ _ _ _ _ _ (.Constant (.float _) _ _) _); refine WE_flt ?_) | ((with_reducible show WE _ _ _ _ _ _ (.Constant (.int _) _ _) _); refine WE_int ?_) | ((with_reducible show WE _ _ _ _ _ _ (.Constant (.bool _) _ _) _); refine WE_bool ?_) | ((with_reducible show WE _ _ _ _ _ _ (.Name _ _) _); first | refine WE_name rfl ?_ | refine WE_name (by assumption) ?_ | refine WE_name (comp_get (by assumption)) ?_) | ((with_reducible show WE _ _ _ _ _ _ (.Tuple _ _ _) _); refine WE_tuple ?_) | ((with_reducible show WE _ _ _ _ _ _ (.List _ _) _); refine WE_list ?_) | ((with_reducible show WE _ _ _ _ _ _ (.Subscript _ (.Slice _ _ none _) _) _); refine WE_cut ?_) | ((with_reducible show WE _ _ _ _ _ _ (.Subscript _ _ _) _); refine WE_item ?_) | ((with_reducible show WE _ _ _ _ _ _ (.UnaryOp _ _ _) _); refine WE_unary ?_) | ((with_reducible show WP _ _ _ _ _ _ (some _) _); refine WP_some ?_) | ((with_reducible show WP _ _ _ _ _ _ none _); refine WP_none ?_) | ((with_reducible show WEs _ _ _ _ _ _ (_ :: _) _); refine WEs_cons ?_) | ((with_reducible show WEs _ _ _ _ _ _ [] _); refine WEs_nil ?_) | ((with_reducible show BO _ _ _ .Mult (.flt _) (.flt _) _); refine BO_mul_ff ?_) | ((with_reducible show BO _ _ _ .Add (.flt _) (.flt _) _); refine BO_add_ff ?_) | ((with_reducible show BO _ _ _ .Sub (.flt _) (.flt _) _); refine BO_sub_ff ?_) | ((with_reducible show BO _ _ _ .Add (.int _) (.int _) _); refine BO_add_ii ?_) | ((with_reducible show BO _ _ _ .Sub (.int _) (.int _) _); refine BO_sub_ii ?_) | ((with_reducible show BO _ _ _ .Mult (.int _) (.int _) _); refine BO_mul_ii (by first | exact mulL (by omega) (by omega) | exact mulR (by omega) (by omega)) ?_) | ((with_reducible show BO _ _ _ .Pow (.int _) (.int _) _); first | refine BO_pow_eq pow40 (by decide) (by decide) ?_ | refine BO_pow_eq pow52 (by decide) (by decide) ?_ | refine BO_pow_eq pow53 (by decide) (by decide) ?_ | refine BO_pow2 (by omega) (by omega) ?_) | ((with_reducible show BO _ _ _ .Mod (.int _) (.int _) _); refine BO_mod_p (by omega) ?_) | ((with_reducible show BO _ _ _ .FloorDiv (.int _) (.int _) _); refine BO_div_p (by omega) (by omega) ?_) | ((with_reducible show BO _ _ _ .Div (.int _) (.int _) _); refine BO_div_s (Rm.handled (by first | assumption | apply_assumption)) (by omega) (by omega) (by omega) ?_) | ((with_reducible show IO _ _ _ (.tup _) (.int (OfNat.ofNat _)) _); refine IO_ti (by decide) rfl (by decide) ?_) | ((with_reducible show UO _ _ _ .USub (.int _) _); refine UO_neg_i ?_))
      refine CO_eq_ff ?_
      unfold hlsC
      cases h1 : (Float64.cmp s 0 == some .eq) with
      | true =>
        refine WS_cons (WX_return ?_)
        repeat (first | ((with_reducible show WE _ _ _ _ _ _ (.BinOp _ _ _ _) _); refine WE_binop ?_) | ((with_reducible show WE _ _ _ _ _ _ (.Constant (.float _) _ _) _); refine WE_flt ?_) | ((with_reducible show WE _ _ _ _ _ _ (.Constant (.int _) _ _) _); refine WE_int ?_) | ((with_reducible show WE _ _ _ _ _ _ (.Constant (.bool _) _ _) _); refine WE_bool ?_) | ((with_reducible show WE _ _ _ _ _ _ (.Name _ _) _); first | refine WE_name rfl ?_ | refine WE_name (by assumption) ?_ | refine WE_name (comp_get (by assumption)) ?_) | ((with_reducible show WE _ _ _ _ _ _ (.Tuple _ _ _) _); refine WE_tuple ?_) | ((with_reducible show WE _ _ _ _ _ _ (.List _ _) _); refine WE_list ?_) | ((with_reducible show WE _ _ _ _ _ _ (.Subscript _ (.Slice _ _ none _) _) _); refine WE_cut ?_) | ((with_reducible show WE _ _ _ _ _ _ (.Subscript _ _ _) _); refine WE_item ?_) | ((with_reducible show WE _ _ _ _ _ _ (.UnaryOp _ _ _) _); refine WE_unary ?_) | ((with_reducible show WP _ _ _ _ _ _ (some _) _); refine WP_some ?_) | ((with_reducible show WP _ _ _ _ _ _ none _); refine WP_none ?_) | ((with_reducible show WEs _ _ _ _ _ _ (_ :: _) _); refine WEs_cons ?_) | ((with_reducible show WEs _ _ _ _ _ _ [] _); refine WEs_nil ?_) | ((with_reducible show BO _ _ _ .Mult (.flt _) (.flt _) _); refine BO_mul_ff ?_) | ((with_reducible show BO _ _ _ .Add (.flt _) (.flt _) _); refine BO_add_ff ?_) | ((with_reducible show BO _ _ _ .Sub (.flt _) (.flt _) _); refine BO_sub_ff ?_) | ((with_reducible show BO _ _ _ .Add (.int _) (.int _) _); refine BO_add_ii ?_) | ((with_reducible show BO _ _ _ .Sub (.int _) (.int _) _); refine BO_sub_ii ?_) | ((with_reducible show BO _ _ _ .Mult (.int _) (.int _) _); refine BO_mul_ii (by first | exact mulL (by omega) (by omega) | exact mulR (by omega) (by omega)) ?_) | ((with_reducible show BO _ _ _ .Pow (.int _) (.int _) _); first | refine BO_pow_eq pow40 (by decide) (by decide) ?_ | refine BO_pow_eq pow52 (by decide) (by decide) ?_ | refine BO_pow_eq pow53 (by decide) (by decide) ?_ | refine BO_pow2 (by omega) (by omega) ?_) | ((with_reducible show BO _ _ _ .Mod (.int _) (.int _) _); refine BO_mod_p (by omega) ?_) | ((with_reducible show BO _ _ _ .FloorDiv (.int _) (.int _) _); refine BO_div_p (by omega) (by omega) ?_) | ((with_reducible show BO _ _ _ .Div (.int _) (.int _) _); refine BO_div_s (Rm.handled (by first | assumption | apply_assumption)) (by omega) (by omega) (by omega) ?_) | ((with_reducible show IO _ _ _ (.tup _) (.int (OfNat.ofNat _)) _); refine IO_ti (by decide) rfl (by decide) ?_) | ((with_reducible show UO _ _ _ .USub (.int _) _); refine UO_neg_i ?_))
        exact ⟨by simp, rfl⟩
      | false =>
        refine WS_nil ?_
        refine WS_cons (WX_if_set (x := Str.ofString "m2") (c := leF l 4602678819172646912) (va := Float64.mul l (Float64.add 4607182418800017408 s)) (vb := Float64.sub (Float64.add l s) (Float64.mul l s)) ?_ ?_ ?_ ?_)
        · refine WT_compare ?_
          repeat (first | ((with_reducible show WE _ _ _ _ _ _ (.BinOp _ _ _ _) _); refine WE_binop ?_) | ((with_reducible show WE _ _ _ _ _ _ (.Constant (.float _) _ _) _); refine WE_flt ?_) | ((with_reducible show WE _ _ _ _ _ _ (.Constant (.int _) _ _) _); refine WE_int ?_) | ((with_reducible show WE _ _ _ _ _ _ (.Constant (.bool _) _ _) _); refine WE_bool ?_) | ((with_reducible show WE _ _ _ _ _ _ (.Name _ _) _); first | refine WE_name rfl ?_ | refine WE_name (by assumption) ?_ | refine WE_name (comp_get (by assumption)) ?_) | ((with_reducible show WE _ _ _ _ _ _ (.Tuple _ _ _) _); refine WE_tuple ?_) | ((with_reducible show WE _ _ _ _ _ _ (.List _ _) _); refine WE_list ?_) | ((with_reducible show WE _ _ _ _ _ _ (.Subscript _ (.Slice _ _ none _) _) _); refine WE_cut ?_) | ((with_reducible show WE _ _ _ _ _ _ (.Subscript _ _ _) _); refine WE_item ?_) | ((with_reducible show WE _ _ _ _ _ _ (.UnaryOp _ _ _) _); refine WE_unary ?_) | ((with_reducible show WP _ _ _ _ _ _ (some _) _); refine WP_some ?_) | ((with_reducible show WP _ _ _ _ _ _ none _); refine WP_none ?_) | ((with_reducible show WEs _ _ _ _ _ _ (_ :: _) _); refine WEs_cons ?_) | ((with_reducible show WEs _ _ _ _ _ _ [] _); refine WEs_nil ?_) | ((with_reducible show BO _ _ _ .Mult (.flt _) (.flt _) _); refine BO_mul_ff ?_) | ((with_reducible show BO _ _ _ .Add (.flt _) (.flt _) _); refine BO_add_ff ?_) | ((with_reducible show BO _ _ _ .Sub (.flt _) (.flt _) _); refine BO_sub_ff ?_) | ((with_reducible show BO _ _ _ .Add (.int _) (.int _) _); refine BO_add_ii ?_) | ((with_reducible show BO _ _ _ .Sub (.int _) (.int _) _); refine BO_sub_ii ?_) | ((with_reducible show BO _ _ _ .Mult (.int _) (.int _) _); refine BO_mul_ii (by first | exact mulL (by omega) (by omega) | exact mulR (by omega) (by omega)) ?_) | ((with_reducible show BO _ _ _ .Pow (.int _) (.int _) _); first | refine BO_pow_eq pow40 (by decide) (by decide) ?_ | refine BO_pow_eq pow52 (by decide) (by decide) ?_ | refine BO_pow_eq pow53 (by decide) (by decide) ?_ | refine BO_pow2 (by omega) (by omega) ?_) | ((with_reducible show BO _ _ _ .Mod (.int _) (.int _) _); refine BO_mod_p (by omega) ?_) | ((with_reducible show BO _ _ _ .FloorDiv (.int _) (.int _) _); refine BO_div_p (by omega) (by omega) ?_) | ((with_reducible show BO _ _ _ .Div (.int _) (.int _) _); refine BO_div_s (Rm.handled (by first | assumption | apply_assumption)) (by omega) (by omega) (by omega) ?_) | ((with_reducible show IO _ _ _ (.tup _) (.int (OfNat.ofNat _)) _); refine IO_ti (by decide) rfl (by decide) ?_) | ((with_reducible show UO _ _ _ .USub (.int _) _); refine UO_neg_i ?_))
          exact CO_le_ff rfl
        · intro _
          refine WS_cons (WX_assign (.inl rfl) ?_)
          repeat (first | ((with_reducible show WE _ _ _ _ _ _ (.BinOp _ _ _ _) _); refine WE_binop ?_) | ((with_reducible show WE _ _ _ _ _ _ (.Constant (.float _) _ _) _); refine WE_flt ?_) | ((with_reducible show WE _ _ _ _ _ _ (.Constant (.int _) _ _) _); refine WE_int ?_) | ((with_reducible show WE _ _ _ _ _ _ (.Constant (.bool _) _ _) _); refine WE_bool ?_) | ((with_reducible show WE _ _ _ _ _ _ (.Name _ _) _); first | refine WE_name rfl ?_ | refine WE_name (by assumption) ?_ | refine WE_name (comp_get (by assumption)) ?_) | ((with_reducible show WE _ _ _ _ _ _ (.Tuple _ _ _) _); refine WE_tuple ?_) | ((with_reducible show WE _ _ _ _ _ _ (.List _ _) _); refine WE_list ?_) | ((with_reducible show WE _ _ _ _ _ _ (.Subscript _ (.Slice _ _ none _) _) _); refine WE_cut ?_) | ((with_reducible show WE _ _ _ _ _ _ (.Subscript _ _ _) _); refine WE_item ?_) | ((with_reducible show WE _ _ _ _ _ _ (.UnaryOp _ _ _) _); refine WE_unary ?_) | ((with_reducible show WP _ _ _ _ _ _ (some _) _); refine WP_some ?_) | ((with_reducible show WP _ _ _ _ _ _ none _); refine WP_none ?_) | ((with_reducible show WEs _ _ _ _ _ _ (_ :: _) _); refine WEs_cons ?_) | ((with_reducible show WEs _ _ _ _ _ _ [] _); refine WEs_nil ?_) | ((with_reducible show BO _ _ _ .Mult (.flt _) (.flt _) _); refine BO_mul_ff ?_) | ((with_reducible show BO _ _ _ .Add (.flt _) (.flt _) _); refine BO_add_ff ?_) | ((with_reducible show BO _ _ _ .Sub (.flt _) (.flt _) _); refine BO_sub_ff ?_) | ((with_reducible show BO _ _ _ .Add (.int _) (.int _) _); refine BO_add_ii ?_) | ((with_reducible show BO _ _ _ .Sub (.int _) (.int _) _); refine BO_sub_ii ?_) | ((with_reducible show BO _ _ _ .Mult (.int _) (.int _) _); refine BO_mul_ii (by first | exact mulL (by omega) (by omega) | exact mulR (by omega) (by omega)) ?_) | ((with_reducible show BO _ _ _ .Pow (.int _) (.int _) _); first | refine BO_pow_eq pow40 (by decide) (by decide) ?_ | refine BO_pow_eq pow52 (by decide) (by decide) ?_ | refine BO_pow_eq pow53 (by decide) (by decide) ?_ | refine BO_pow2 (by omega) (by omega) ?_) | ((with_reducible show BO _ _ _ .Mod (.int _) (.int _) _); refine BO_mod_p (by omega) ?_) | ((with_reducible show BO _ _ _ .FloorDiv (.int _) (.int _) _); refine BO_div_p (by omega) (by omega) ?_) | ((with_reducible show BO _ _ _ .Div (.int _) (.int _) _); refine BO_div_s (Rm.handled (by first | assumption | apply_assumption)) (by omega) (by omega) (by omega) ?_) | ((with_reducible show IO _ _ _ (.tup _) (.int (OfNat.ofNat _)) _); refine IO_ti (by decide) rfl (by decide) ?_) | ((with_reducible show UO _ _ _ .USub (.int _) _); refine UO_neg_i ?_))
          exact WS_nil ⟨rfl, rfl⟩
        · intro _
          refine WS_cons (WX_assign (.inl rfl) ?_)
          repeat (first | ((with_reducible show WE _ _ _ _ _ _ (.BinOp _ _ _ _) _); refine WE_binop ?_) | ((with_reducible show WE _ _ _ _ _ _ (.Constant (.float _) _ _) _); refine WE_flt ?_) | ((with_reducible show WE _ _ _ _ _ _ (.Constant (.int _) _ _) _); refine WE_int ?_) | ((with_reducible show WE _ _ _ _ _ _ (.Constant (.bool _) _ _) _); refine WE_bool ?_) | ((with_reducible show WE _ _ _ _ _ _ (.Name _ _) _); first | refine WE_name rfl ?_ | refine WE_name (by assumption) ?_ | refine WE_name (comp_get (by assumption)) ?_) | ((with_reducible show WE _ _ _ _ _ _ (.Tuple _ _ _) _); refine WE_tuple ?_) | ((with_reducible show WE _ _ _ _ _ _ (.List _ _) _); refine WE_list ?_) | ((with_reducible show WE _ _ _ _ _ _ (.Subscript _ (.Slice _ _ none _) _) _); refine WE_cut ?_) | ((with_reducible show WE _ _ _ _ _ _ (.Subscript _ _ _) _); refine WE_item ?_) | ((with_reducible show WE _ _ _ _ _ _ (.UnaryOp _ _ _) _); refine WE_unary ?_) | ((with_reducible show WP _ _ _ _ _ _ (some _) _); refine WP_some ?_) | ((with_reducible show WP _ _ _ _ _ _ none _); refine WP_none ?_) | ((with_reducible show WEs _ _ _ _ _ _ (_ :: _) _); refine WEs_cons ?_) | ((with_reducible show WEs _ _ _ _ _ _ [] _); refine WEs_nil ?_) | ((with_reducible show BO _ _ _ .Mult (.flt _) (.flt _) _); refine BO_mul_ff ?_) | ((with_reducible show BO _ _ _ .Add (.flt _) (.flt _) _); refine BO_add_ff ?_) | ((with_reducible show BO _ _ _ .Sub (.flt _) (.flt _) _); refine BO_sub_ff ?_) | ((with_reducible show BO _ _ _ .Add (.int _) (.int _) _); refine BO_add_ii ?_) | ((with_reducible show BO _ _ _ .Sub (.int _) (.int _) _); refine BO_sub_ii ?_) | ((with_reducible show BO _ _ _ .Mult (.int _) (.int _) _); refine BO_mul_ii (by first | exact mulL (by omega) (by omega) | exact mulR (by omega) (by omega)) ?_) | ((with_reducible show BO _ _ _ .Pow (.int _) (.int _) _); first | refine BO_pow_eq pow40 (by decide) (by decide) ?_ | refine BO_pow_eq pow52 (by decide) (by decide) ?_ | refine BO_pow_eq pow53 (by decide) (by decide) ?_ | refine BO_pow2 (by omega) (by omega) ?_) | ((with_reducible show BO _ _ _ .Mod (.int _) (.int _) _); refine BO_mod_p (by omega) ?_) | ((with_reducible show BO _ _ _ .FloorDiv (.int _) (.int _) _); refine BO_div_p (by omega) (by omega) ?_) | ((with_reducible show BO _ _ _ .Div (.int _) (.int _) _); refine BO_div_s (Rm.handled (by first | assumption | apply_assumption)) (by omega) (by omega) (by omega) ?_) | ((with_reducible show IO _ _ _ (.tup _) (.int (OfNat.ofNat _)) _); refine IO_ti (by decide) rfl (by decide) ?_) | ((with_reducible show UO _ _ _ .USub (.int _) _); refine UO_neg_i ?_))
          exact WS_nil ⟨rfl, rfl⟩
        show WS _ _ _ _ _ (Store.set _ _ (.dat (.flt (hlsM2 l s)))) _ _
        refine WS_cons (WX_assign (.inl rfl) ?_)
        repeat (first | ((with_reducible show WE _ _ _ _ _ _ (.BinOp _ _ _ _) _); refine WE_binop ?_) | ((with_reducible show WE _ _ _ _ _ _ (.Constant (.float _) _ _) _); refine WE_flt ?_) | ((with_reducible show WE _ _ _ _ _ _ (.Constant (.int _) _ _) _); refine WE_int ?_) | ((with_reducible show WE _ _ _ _ _ _ (.Constant (.bool _) _ _) _); refine WE_bool ?_) | ((with_reducible show WE _ _ _ _ _ _ (.Name _ _) _); first | refine WE_name rfl ?_ | refine WE_name (by assumption) ?_ | refine WE_name (comp_get (by assumption)) ?_) | ((with_reducible show WE _ _ _ _ _ _ (.Tuple _ _ _) _); refine WE_tuple ?_) | ((with_reducible show WE _ _ _ _ _ _ (.List _ _) _); refine WE_list ?_) | ((with_reducible show WE _ _ _ _ _ _ (.Subscript _ (.Slice _ _ none _) _) _); refine WE_cut ?_) | ((with_reducible show WE _ _ _ _ _ _ (.Subscript _ _ _) _); refine WE_item ?_) | ((with_reducible show WE _ _ _ _ _ _ (.UnaryOp _ _ _) _); refine WE_unary ?_) | ((with_reducible show WP _ _ _ _ _ _ (some _) _); refine WP_some ?_) | ((with_reducible show WP _ _ _ _ _ _ none _); refine WP_none ?_) | ((with_reducible show WEs _ _ _ _ _ _ (_ :: _) _); refine WEs_cons ?_) | ((with_reducible show WEs _ _ _ _ _ _ [] _); refine WEs_nil ?_) | ((with_reducible show BO _ _ _ .Mult (.flt _) (.flt _) _); refine BO_mul_ff ?_) | ((with_reducible show BO _ _ _ .Add (.flt _) (.flt _) _); refine BO_add_ff ?_) | ((with_reducible show BO _ _ _ .Sub (.flt _) (.flt _) _); refine BO_sub_ff ?_) | ((with_reducible show BO _ _ _ .Add (.int _) (.int _) _); refine BO_add_ii ?_) | ((with_reducible show BO _ _ _ .Sub (.int _) (.int _) _); refine BO_sub_ii ?_) | ((with_reducible show BO _ _ _ .Mult (.int _) (.int _) _); refine BO_mul_ii (by first | exact mulL (by omega) (by omega) | exact mulR (by omega) (by omega)) ?_) | ((with_reducible show BO _ _ _ .Pow (.int _) (.int _) _); first | refine BO_pow_eq pow40 (by decide) (by decide) ?_ | refine BO_pow_eq pow52 (by decide) (by decide) ?_ | refine BO_pow_eq pow53 (by decide) (by decide) ?_ | refine BO_pow2 (by omega) (by omega) ?_) | ((with_reducible show BO _ _ _ .Mod (.int _) (.int _) _); refine BO_mod_p (by omega) ?_) | ((with_reducible show BO _ _ _ .FloorDiv (.int _) (.int _) _); refine BO_div_p (by omega) (by omega) ?_) | ((with_reducible show BO _ _ _ .Div (.int _) (.int _) _); refine BO_div_s (Rm.handled (by first | assumption | apply_assumption)) (by omega) (by omega) (by omega) ?_) | ((with_reducible show IO _ _ _ (.tup _) (.int (OfNat.ofNat _)) _); refine IO_ti (by decide) rfl (by decide) ?_) | ((with_reducible show UO _ _ _ .USub (.int _) _); refine UO_neg_i ?_))
        show WS _ _ _ _ _ (Store.set _ _ (.dat (.flt (hlsM1 l s)))) _ _
        generalize hlsM2 l s = m2
        generalize hlsM1 l s = m1
        refine WS_cons (WX_return ?_)
        refine WE_tuple ?_
        refine WEs_cons ?_
        refine WE_call_doc GB hm1 ho1 hd1 hc1 rfl ?_
        repeat (first | ((with_reducible show WE _ _ _ _ _ _ (.BinOp _ _ _ _) _); refine WE_binop ?_) | ((with_reducible show WE _ _ _ _ _ _ (.Constant (.float _) _ _) _); refine WE_flt ?_) | ((with_reducible show WE _ _ _ _ _ _ (.Constant (.int _) _ _) _); refine WE_int ?_) | ((with_reducible show WE _ _ _ _ _ _ (.Constant (.bool _) _ _) _); refine WE_bool ?_) | ((with_reducible show WE _ _ _ _ _ _ (.Name _ _) _); first | refine WE_name rfl ?_ | refine WE_name (by assumption) ?_ | refine WE_name (comp_get (by assumption)) ?_) | ((with_reducible show WE _ _ _ _ _ _ (.Tuple _ _ _) _); refine WE_tuple ?_) | ((with_reducible show WE _ _ _ _ _ _ (.List _ _) _); refine WE_list ?_) | ((with_reducible show WE _ _ _ _ _ _ (.Subscript _ (.Slice _ _ none _) _) _); refine WE_cut ?_) | ((with_reducible show WE _ _ _ _ _ _ (.Subscript _ _ _) _); refine WE_item ?_) | ((with_reducible show WE _ _ _ _ _ _ (.UnaryOp _ _ _) _); refine WE_unary ?_) | ((with_reducible show WP _ _ _ _ _ _ (some _) _); refine WP_some ?_) | ((with_reducible show WP _ _ _ _ _ _ none _); refine WP_none ?_) | ((with_reducible show WEs _ _ _ _ _ _ (_ :: _) _); refine WEs_cons ?_) | ((with_reducible show WEs _ _ _ _ _ _ [] _); refine WEs_nil ?_) | ((with_reducible show BO _ _ _ .Mult (.flt _) (.flt _) _); refine BO_mul_ff ?_) | ((with_reducible show BO _ _ _ .Add (.flt _) (.flt _) _); refine BO_add_ff ?_) | ((with_reducible show BO _ _ _ .Sub (.flt _) (.flt _) _); refine BO_sub_ff ?_) | ((with_reducible show BO _ _ _ .Add (.int _) (.int _) _); refine BO_add_ii ?_) | ((with_reducible show BO _ _ _ .Sub (.int _) (.int _) _); refine BO_sub_ii ?_) | ((with_reducible show BO _ _ _ .Mult (.int _) (.int _) _); refine BO_mul_ii (by first | exact mulL (by omega) (by omega) | exact mulR (by omega) (by omega)) ?_) | ((with_reducible show BO _ _ _ .Pow (.int _) (.int _) _); first | refine BO_pow_eq pow40 (by decide) (by decide) ?_ | refine BO_pow_eq pow52 (by decide) (by decide) ?_ | refine BO_pow_eq pow53 (by decide) (by decide) ?_ | refine BO_pow2 (by omega) (by omega) ?_) | ((with_reducible show BO _ _ _ .Mod (.int _) (.int _) _); refine BO_mod_p (by omega) ?_) | ((with_reducible show BO _ _ _ .FloorDiv (.int _) (.int _) _); refine BO_div_p (by omega) (by omega) ?_) | ((with_reducible show BO _ _ _ .Div (.int _) (.int _) _); refine BO_div_s (Rm.handled (by first | assumption | apply_assumption)) (by omega) (by omega) (by omega) ?_) | ((with_reducible show IO _ _ _ (.tup _) (.int (OfNat.ofNat _)) _); refine IO_ti (by decide) rfl (by decide) ?_) | ((with_reducible show UO _ _ _ .USub (.int _) _); refine UO_neg_i ?_))
        refine WE_global GB rfl g3 (fun _ _ => rep_flt n3) ?_
        repeat (first | ((with_reducible show WE _ _ _ _ _ _ (.BinOp _ _ _ _) _); refine WE_binop ?_) | ((with_reducible show WE _ _ _ _ _ _ (.Constant (.float _) _ _) _); refine WE_flt ?_) | ((with_reducible show WE _ _ _ _ _ _ (.Constant (.int _) _ _) _); refine WE_int ?_) | ((with_reducible show WE _ _ _ _ _ _ (.Constant (.bool _) _ _) _); refine WE_bool ?_) | ((with_reducible show WE _ _ _ _ _ _ (.Name _ _) _); first | refine WE_name rfl ?_ | refine WE_name (by assumption) ?_ | refine WE_name (comp_get (by assumption)) ?_) | ((with_reducible show WE _ _ _ _ _ _ (.Tuple _ _ _) _); refine WE_tuple ?_) | ((with_reducible show WE _ _ _ _ _ _ (.List _ _) _); refine WE_list ?_) | ((with_reducible show WE _ _ _ _ _ _ (.Subscript _ (.Slice _ _ none _) _) _); refine WE_cut ?_) | ((with_reducible show WE _ _ _ _ _ _ (.Subscript _ _ _) _); refine WE_item ?_) | ((with_reducible show WE _ _ _ _ _ _ (.UnaryOp _ _ _) _); refine WE_unary ?_) | ((with_reducible show WP _ _ _ _ _ _ (some _) _); refine WP_some ?_) | ((with_reducible show WP _ _ _ _ _ _ none _); refine WP_none ?_) | ((with_reducible show WEs _ _ _ _ _ _ (_ :: _) _); refine WEs_cons ?_) | ((with_reducible show WEs _ _ _ _ _ _ [] _); refine WEs_nil ?_) | ((with_reducible show BO _ _ _ .Mult (.flt _) (.flt _) _); refine BO_mul_ff ?_) | ((with_reducible show BO _ _ _ .Add (.flt _) (.flt _) _); refine BO_add_ff ?_) | ((with_reducible show BO _ _ _ .Sub (.flt _) (.flt _) _); refine BO_sub_ff ?_) | ((with_reducible show BO _ _ _ .Add (.int _) (.int _) _); refine BO_add_ii ?_) | ((with_reducible show BO _ _ _ .Sub (.int _) (.int _) _); refine BO_sub_ii ?_) | ((with_reducible show BO _ _ _ .Mult (.int _) (.int _) _); refine BO_mul_ii (by first | exact mulL (by omega) (by omega) | exact mulR (by omega) (by omega)) ?_) | ((with_reducible show BO _ _ _ .Pow (.int _) (.int _) _); first | refine BO_pow_eq pow40 (by decide) (by decide) ?_ | refine BO_pow_eq pow52 (by decide) (by decide) ?_ | refine BO_pow_eq pow53 (by decide) (by decide) ?_ | refine BO_pow2 (by omega) (by omega) ?_) | ((with_reducible show BO _ _ _ .Mod (.int _) (.int _) _); refine BO_mod_p (by omega) ?_) | ((with_reducible show BO _ _ _ .FloorDiv (.int _) (.int _) _); refine BO_div_p (by omega) (by omega) ?_) | ((with_reducible show BO _ _ _ .Div (.int _) (.int _) _); refine BO_div_s (Rm.handled (by first | assumption | apply_assumption)) (by omega) (by omega) (by omega) ?_) | ((with_reducible show IO _ _ _ (.tup _) (.int (OfNat.ofNat _)) _); refine IO_ti (by decide) rfl (by decide) ?_) | ((with_reducible show UO _ _ _ .USub (.int _) _); refine UO_neg_i ?_))
        refine WC.mono (vv _ (hA.deeper _) _ _ _) ?_
        rintro d rfl
        refine WEs_cons ?_
        refine WE_call_doc GB hm1 ho1 hd1 hc1 rfl ?_
        repeat (first | ((with_reducible show WE _ _ _ _ _ _ (.BinOp _ _ _ _) _); refine WE_binop ?_) | ((with_reducible show WE _ _ _ _ _ _ (.Constant (.float _) _ _) _); refine WE_flt ?_) | ((with_reducible show WE _ _ _ _ _ _ (.Constant (.int _) _ _) _); refine WE_int ?_) | ((with_reducible show WE _ _ _ _ _ _ (.Constant (.bool _) _ _) _); refine WE_bool ?_) | ((with_reducible show WE _ _ _ _ _ _ (.Name _ _) _); first | refine WE_name rfl ?_ | refine WE_name (by assumption) ?_ | refine WE_name (comp_get (by assumption)) ?_) | ((with_reducible show WE _ _ _ _ _ _ (.Tuple _ _ _) _); refine WE_tuple ?_) | ((with_reducible show WE _ _ _ _ _ _ (.List _ _) _); refine WE_list ?_) | ((with_reducible show WE _ _ _ _ _ _ (.Subscript _ (.Slice _ _ none _) _) _); refine WE_cut ?_) | ((with_reducible show WE _ _ _ _ _ _ (.Subscript _ _ _) _); refine WE_item ?_) | ((with_reducible show WE _ _ _ _ _ _ (.UnaryOp _ _ _) _); refine WE_unary ?_) | ((with_reducible show WP _ _ _ _ _ _ (some _) _); refine WP_some ?_) | ((with_reducible show WP _ _ _ _ _ _ none _); refine WP_none ?_) | ((with_reducible show WEs _ _ _ _ _ _ (_ :: _) _); refine WEs_cons ?_) | ((with_reducible show WEs _ _ _ _ _ _ [] _); refine WEs_nil ?_) | ((with_reducible show BO _ _ _ .Mult (.flt _) (.flt _) _); refine BO_mul_ff ?_) | ((with_reducible show BO _ _ _ .Add (.flt _) (.flt _) _); refine BO_add_ff ?_) | ((with_reducible show BO _ _ _ .Sub (.flt _) (.flt _) _); refine BO_sub_ff ?_) | ((with_reducible show BO _ _ _ .Add (.int _) (.int _) _); refine BO_add_ii ?_) | ((with_reducible show BO _ _ _ .Sub (.int _) (.int _) _); refine BO_sub_ii ?_) | ((with_reducible show BO _ _ _ .Mult (.int _) (.int _) _); refine BO_mul_ii (by first | exact mulL (by omega) (by omega) | exact mulR (by omega) (by omega)) ?_) | ((with_reducible show BO _ _ _ .Pow (.int _) (.int _) _); first | refine BO_pow_eq pow40 (by decide) (by decide) ?_ | refine BO_pow_eq pow52 (by decide) (by decide) ?_ | refine BO_pow_eq pow53 (by decide) (by decide) ?_ | refine BO_pow2 (by omega) (by omega) ?_) | ((with_reducible show BO _ _ _ .Mod (.int _) (.int _) _); refine BO_mod_p (by omega) ?_) | ((with_reducible show BO _ _ _ .FloorDiv (.int _) (.int _) _); refine BO_div_p (by omega) (by omega) ?_) | ((with_reducible show BO _ _ _ .Div (.int _) (.int _) _); refine BO_div_s (Rm.handled (by first | assumption | apply_assumption)) (by omega) (by omega) (by omega) ?_) | ((with_reducible show IO _ _ _ (.tup _) (.int (OfNat.ofNat _)) _); refine IO_ti (by decide) rfl (by decide) ?_) | ((with_reducible show UO _ _ _ .USub (.int _) _); refine UO_neg_i ?_))
        refine WC.mono (vv _ (hA.deeper _) _ _ _) ?_
        rintro d rfl
        refine WEs_cons ?_
        refine WE_call_doc GB hm1 ho1 hd1 hc1 rfl ?_
        repeat (first | ((with_reducible show WE _ _ _ _ _ _ (.BinOp _ _ _ _) _); refine WE_binop ?_) | ((with_reducible show WE _ _ _ _ _ _ (.Constant (.float _) _ _) _); refine WE_flt ?_) | ((with_reducible show WE _ _ _ _ _ _ (.Constant (.int _) _ _) _); refine WE_int ?_) | ((with_reducible show WE _ _ _ _ _ _ (.Constant (.bool _) _ _) _); refine WE_bool ?_) | ((with_reducible show WE _ _ _ _ _ _ (.Name _ _) _); first | refine WE_name rfl ?_ | refine WE_name (by assumption) ?_ | refine WE_name (comp_get (by assumption)) ?_) | ((with_reducible show WE _ _ _ _ _ _ (.Tuple _ _ _) _); refine WE_tuple ?_) | ((with_reducible show WE _ _ _ _ _ _ (.List _ _) _); refine WE_list ?_) | ((with_reducible show WE _ _ _ _ _ _ (.Subscript _ (.Slice _ _ none _) _) _); refine WE_cut ?_) | ((with_reducible show WE _ _ _ _ _ _ (.Subscript _ _ _) _); refine WE_item ?_) | ((with_reducible show WE _ _ _ _ _ _ (.UnaryOp _ _ _) _); refine WE_unary ?_) | ((with_reducible show WP _ _ _ _ _ _ (some _) _); refine WP_some ?_) | ((with_reducible show WP _ _ _ _ _ _ none _); refine WP_none ?_) | ((with_reducible show WEs _ _ _ _ _ _ (_ :: _) _); refine WEs_cons ?_) | ((with_reducible show WEs _ _ _ _ _ _ [] _); refine WEs_nil ?_) | ((with_reducible show BO _ _ _ .Mult (.flt _) (.flt _) _); refine BO_mul_ff ?_) | ((with_reducible show BO _ _ _ .Add (.flt _) (.flt _) _); refine BO_add_ff ?_) | ((with_reducible show BO _ _ _ .Sub (.flt _) (.flt _) _); refine BO_sub_ff ?_) | ((with_reducible show BO _ _ _ .Add (.int _) (.int _) _); refine BO_add_ii ?_) | ((with_reducible show BO _ _ _ .Sub (.int _) (.int _) _); refine BO_sub_ii ?_) | ((with_reducible show BO _ _ _ .Mult (.int _) (.int _) _); refine BO_mul_ii (by first | exact mulL (by omega) (by omega) | exact mulR (by omega) (by omega)) ?_) | ((with_reducible show BO _ _ _ .Pow (.int _) (.int _) _); first | refine BO_pow_eq pow40 (by decide) (by decide) ?_ | refine BO_pow_eq pow52 (by decide) (by decide) ?_ | refine BO_pow_eq pow53 (by decide) (by decide) ?_ | refine BO_pow2 (by omega) (by omega) ?_) | ((with_reducible show BO _ _ _ .Mod (.int _) (.int _) _); refine BO_mod_p (by omega) ?_) | ((with_reducible show BO _ _ _ .FloorDiv (.int _) (.int _) _); refine BO_div_p (by omega) (by omega) ?_) | ((with_reducible show BO _ _ _ .Div (.int _) (.int _) _); refine BO_div_s (Rm.handled (by first | assumption | apply_assumption)) (by omega) (by omega) (by omega) ?_) | ((with_reducible show IO _ _ _ (.tup _) (.int (OfNat.ofNat _)) _); refine IO_ti (by decide) rfl (by decide) ?_) | ((with_reducible show UO _ _ _ .USub (.int _) _); refine UO_neg_i ?_))
        refine WE_global GB rfl g3 (fun _ _ => rep_flt n3) ?_
        repeat (first | ((with_reducible show WE _ _ _ _ _ _ (.BinOp _ _ _ _) _); refine WE_binop ?_) | ((with_reducible show WE _ _ _ _ _ _ (.Constant (.float _) _ _) _); refine WE_flt ?_) | ((with_reducible show WE _ _ _ _ _ _ (.Constant (.int _) _ _) _); refine WE_int ?_) | ((with_reducible show WE _ _ _ _ _ _ (.Constant (.bool _) _ _) _); refine WE_bool ?_) | ((with_reducible show WE _ _ _ _ _ _ (.Name _ _) _); first | refine WE_name rfl ?_ | refine WE_name (by assumption) ?_ | refine WE_name (comp_get (by assumption)) ?_) | ((with_reducible show WE _ _ _ _ _ _ (.Tuple _ _ _) _); refine WE_tuple ?_) | ((with_reducible show WE _ _ _ _ _ _ (.List _ _) _); refine WE_list ?_) | ((with_reducible show WE _ _ _ _ _ _ (.Subscript _ (.Slice _ _ none _) _) _); refine WE_cut ?_) | ((with_reducible show WE _ _ _ _ _ _ (.Subscript _ _ _) _); refine WE_item ?_) | ((with_reducible show WE _ _ _ _ _ _ (.UnaryOp _ _ _) _); refine WE_unary ?_) | ((with_reducible show WP _ _ _ _ _ _ (some _) _); refine WP_some ?_) | ((with_reducible show WP _ _ _ _ _ _ none _); refine WP_none ?_) | ((with_reducible show WEs _ _ _ _ _ _ (_ :: _) _); refine WEs_cons ?_) | ((with_reducible show WEs _ _ _ _ _ _ [] _); refine WEs_nil ?_) | ((with_reducible show BO _ _ _ .Mult (.flt _) (.flt _) _); refine BO_mul_ff ?_) | ((with_reducible show BO _ _ _ .Add (.flt _) (.flt _) _); refine BO_add_ff ?_) | ((with_reducible show BO _ _ _ .Sub (.flt _) (.flt _) _); refine BO_sub_ff ?_) | ((with_reducible show BO _ _ _ .Add (.int _) (.int _) _); refine BO_add_ii ?_) | ((with_reducible show BO _ _ _ .Sub (.int _) (.int _) _); refine BO_sub_ii ?_) | ((with_reducible show BO _ _ _ .Mult (.int _) (.int _) _); refine BO_mul_ii (by first | exact mulL (by omega) (by omega) | exact mulR (by omega) (by omega)) ?_) | ((with_reducible show BO _ _ _ .Pow (.int _) (.int _) _); first | refine BO_pow_eq pow40 (by decide) (by decide) ?_ | refine BO_pow_eq pow52 (by decide) (by decide) ?_ | refine BO_pow_eq pow53 (by decide) (by decide) ?_ | refine BO_pow2 (by omega) (by omega) ?_) | ((with_reducible show BO _ _ _ .Mod (.int _) (.int _) _); refine BO_mod_p (by omega) ?_) | ((with_reducible show BO _ _ _ .FloorDiv (.int _) (.int _) _); refine BO_div_p (by omega) (by omega) ?_) | ((with_reducible show BO _ _ _ .Div (.int _) (.int _) _); refine BO_div_s (Rm.handled (by first | assumption | apply_assumption)) (by omega) (by omega) (by omega) ?_) | ((with_reducible show IO _ _ _ (.tup _) (.int (OfNat.ofNat _)) _); refine IO_ti (by decide) rfl (by decide) ?_) | ((with_reducible show UO _ _ _ .USub (.int _) _); refine UO_neg_i ?_))
        refine WC.mono (vv _ (hA.deeper _) _ _ _) ?_
        rintro d rfl
        repeat (first | ((with_reducible show WE _ _ _ _ _ _ (.BinOp _ _ _ _) _); refine WE_binop ?_) | ((with_reducible show WE _ _ _ _ _ _ (.Constant (.float _) _ _) _); refine WE_flt ?_) | ((with_reducible show WE _ _ _ _ _ _ (.Constant (.int _) _ _) _); refine WE_int ?_) | ((with_reducible show WE _ _ _ _ _ _ (.Constant (.bool _) _ _) _); refine WE_bool ?_) | ((with_reducible show WE _ _ _ _ _ _ (.Name _ _) _); first | refine WE_name rfl ?_ | refine WE_name (by assumption) ?_ | refine WE_name (comp_get (by assumption)) ?_) | ((with_reducible show WE _ _ _ _ _ _ (.Tuple _ _ _) _); refine WE_tuple ?_) | ((with_reducible show WE _ _ _ _ _ _ (.List _ _) _); refine WE_list ?_) | ((with_reducible show WE _ _ _ _ _ _ (.Subscript _ (.Slice _ _ none _) _) _); refine WE_cut ?_) | ((with_reducible show WE _ _ _ _ _ _ (.Subscript _ _ _) _); refine WE_item ?_) | ((with_reducible show WE _ _ _ _ _ _ (.UnaryOp _ _ _) _); refine WE_unary ?_) | ((with_reducible show WP _ _ _ _ _ _ (some _) _); refine WP_some ?_) | ((with_reducible show WP _ _ _ _ _ _ none _); refine WP_none ?_) | ((with_reducible show WEs _ _ _ _ _ _ (_ :: _) _); refine WEs_cons ?_) | ((with_reducible show WEs _ _ _ _ _ _ [] _); refine WEs_nil ?_) | ((with_reducible show BO _ _ _ .Mult (.flt _) (.flt _) _); refine BO_mul_ff ?_) | ((with_reducible show BO _ _ _ .Add (.flt _) (.flt _) _); refine BO_add_ff ?_) | ((with_reducible show BO _ _ _ .Sub (.flt _) (.flt _) _); refine BO_sub_ff ?_) | ((with_reducible show BO _ _ _ .Add (.int _) (.int _) _); refine BO_add_ii ?_) | ((with_reducible show BO _ _ _ .Sub (.int _) (.int _) _); refine BO_sub_ii ?_) | ((with_reducible show BO _ _ _ .Mult (.int _) (.int _) _); refine BO_mul_ii (by first | exact mulL (by omega) (by omega) | exact mulR (by omega) (by omega)) ?_) | ((with_reducible show BO _ _ _ .Pow (.int _) (.int _) _); first | refine BO_pow_eq pow40 (by decide) (by decide) ?_ | refine BO_pow_eq pow52 (by decide) (by decide) ?_ | refine BO_pow_eq pow53 (by decide) (by decide) ?_ | refine BO_pow2 (by omega) (by omega) ?_) | ((with_reducible show BO _ _ _ .Mod (.int _) (.int _) _); refine BO_mod_p (by omega) ?_) | ((with_reducible show BO _ _ _ .FloorDiv (.int _) (.int _) _); refine BO_div_p (by omega) (by omega) ?_) | ((with_reducible show BO _ _ _ .Div (.int _) (.int _) _); refine BO_div_s (Rm.handled (by first | assumption | apply_assumption)) (by omega) (by omega) (by omega) ?_) | ((with_reducible show IO _ _ _ (.tup _) (.int (OfNat.ofNat _)) _); refine IO_ti (by decide) rfl (by decide) ?_) | ((with_reducible show UO _ _ _ .USub (.int _) _); refine UO_neg_i ?_))
        exact ⟨by simp, rfl⟩
  have toHls : ∀ A, Rm 1 A → ∀ r g b, HlsOk r g b → WC PySem.Challenge.rw_dm0025_08.row.prog w s₁ A (.ref f3) [.flt r, .flt g, .flt b] (fun d => d = .tup [.flt (toH r g b), .flt (toL r g b), .flt (toS r g b)]) := by
    intro A hA r g b hok
    refine WC_doc GB hm3 ho3 hd3 hc3 (names := [Str.ofString "r", Str.ofString "g", Str.ofString "b"]) hA.room rfl ?_ ?_ ?_
    · intro vals hl
      obtain ⟨a, b, c, rfl⟩ := len3 hl
      rfl
    · intro L y hy; simp only [List.mem_cons, List.not_mem_nil, or_false] at hy
      rcases hy with rfl | rfl | rfl
      · exact .inl rfl
      · exact .inl rfl
      · exact .inl rfl
    · intro L
      refine WS_cons (WX_assign (.inl rfl) ?_)
      refine WE_call_builtin GB rfl nmax (by with_unfolding_all rfl) ?_
      repeat (first | ((with_reducible show WE _ _ _ _ _ _ (.BinOp _ _ _ _) _); refine WE_binop ?_) | ((with_reducible show WE _ _ _ _ _ _ (.Constant (.float _) _ _) _); refine WE_flt ?_) | ((with_reducible show WE _ _ _ _ _ _ (.Constant (.int _) _ _) _); refine WE_int ?_) | ((with_reducible show WE _ _ _ _ _ _ (.Constant (.bool _) _ _) _); refine WE_bool ?_) | ((with_reducible show WE _ _ _ _ _ _ (.Name _ _) _); first | refine WE_name rfl ?_ | refine WE_name (by assumption) ?_ | refine WE_name (comp_get (by assumption)) ?_) | ((with_reducible show WE _ _ _ _ _ _ (.Tuple _ _ _) _); refine WE_tuple ?_) | ((with_reducible show WE _ _ _ _ _ _ (.List _ _) _); refine WE_list ?_) | ((with_reducible show WE _ _ _ _ _ _ (.Subscript _ (.Slice _ _ none _) _) _); refine WE_cut ?_) | ((with_reducible show WE _ _ _ _ _ _ (.Subscript _ _ _) _); refine WE_item ?_) | ((with_reducible show WE _ _ _ _ _ _ (.UnaryOp _ _ _) _); refine WE_unary ?_) | ((with_reducible show WP _ _ _ _ _ _ (some _) _); refine WP_some ?_) | ((with_reducible show WP _ _ _ _ _ _ none _); refine WP_none ?_) | ((with_reducible show WEs _ _ _ _ _ _ (_ :: _) _); refine WEs_cons ?_) | ((with_reducible show WEs _ _ _ _ _ _ [] _); refine WEs_nil ?_) | ((with_reducible show BO _ _ _ .Mult (.flt _) (.flt _) _); refine BO_mul_ff ?_) | ((with_reducible show BO _ _ _ .Add (.flt _) (.flt _) _); refine BO_add_ff ?_) | ((with_reducible show BO _ _ _ .Sub (.flt _) (.flt _) _); refine BO_sub_ff ?_) | ((with_reducible show BO _ _ _ .Add (.int _) (.int _) _); refine BO_add_ii ?_) | ((with_reducible show BO _ _ _ .Sub (.int _) (.int _) _); refine BO_sub_ii ?_) | ((with_reducible show BO _ _ _ .Mult (.int _) (.int _) _); refine BO_mul_ii (by first | exact mulL (by omega) (by omega) | exact mulR (by omega) (by omega)) ?_) | ((with_reducible show BO _ _ _ .Pow (.int _) (.int _) _); first | refine BO_pow_eq pow40 (by decide) (by decide) ?_ | refine BO_pow_eq pow52 (by decide) (by decide) ?_ | refine BO_pow_eq pow53 (by decide) (by decide) ?_ | refine BO_pow2 (by omega) (by omega) ?_) | ((with_reducible show BO _ _ _ .Mod (.int _) (.int _) _); refine BO_mod_p (by omega) ?_) | ((with_reducible show BO _ _ _ .FloorDiv (.int _) (.int _) _); refine BO_div_p (by omega) (by omega) ?_) | ((with_reducible show BO _ _ _ .Div (.int _) (.int _) _); refine BO_div_s (Rm.handled (by first | assumption | apply_assumption)) (by omega) (by omega) (by omega) ?_) | ((with_reducible show IO _ _ _ (.tup _) (.int (OfNat.ofNat _)) _); refine IO_ti (by decide) rfl (by decide) ?_) | ((with_reducible show UO _ _ _ .USub (.int _) _); refine UO_neg_i ?_))
      refine WC_max_fff (hA.deeper _).handled ?_
      show WS _ _ _ _ _ (Store.set _ _ (.dat (.flt (mx3 r g b)))) _ _
      refine WS_cons (WX_assign (.inl rfl) ?_)
      refine WE_call_builtin GB rfl nmin (by with_unfolding_all rfl) ?_
      repeat (first | ((with_reducible show WE _ _ _ _ _ _ (.BinOp _ _ _ _) _); refine WE_binop ?_) | ((with_reducible show WE _ _ _ _ _ _ (.Constant (.float _) _ _) _); refine WE_flt ?_) | ((with_reducible show WE _ _ _ _ _ _ (.Constant (.int _) _ _) _); refine WE_int ?_) | ((with_reducible show WE _ _ _ _ _ _ (.Constant (.bool _) _ _) _); refine WE_bool ?_) | ((with_reducible show WE _ _ _ _ _ _ (.Name _ _) _); first | refine WE_name rfl ?_ | refine WE_name (by assumption) ?_ | refine WE_name (comp_get (by assumption)) ?_) | ((with_reducible show WE _ _ _ _ _ _ (.Tuple _ _ _) _); refine WE_tuple ?_) | ((with_reducible show WE _ _ _ _ _ _ (.List _ _) _); refine WE_list ?_) | ((with_reducible show WE _ _ _ _ _ _ (.Subscript _ (.Slice _ _ none _) _) _); refine WE_cut ?_) | ((with_reducible show WE _ _ _ _ _ _ (.Subscript _ _ _) _); refine WE_item ?_) | ((with_reducible show WE _ _ _ _ _ _ (.UnaryOp _ _ _) _); refine WE_unary ?_) | ((with_reducible show WP _ _ _ _ _ _ (some _) _); refine WP_some ?_) | ((with_reducible show WP _ _ _ _ _ _ none _); refine WP_none ?_) | ((with_reducible show WEs _ _ _ _ _ _ (_ :: _) _); refine WEs_cons ?_) | ((with_reducible show WEs _ _ _ _ _ _ [] _); refine WEs_nil ?_) | ((with_reducible show BO _ _ _ .Mult (.flt _) (.flt _) _); refine BO_mul_ff ?_) | ((with_reducible show BO _ _ _ .Add (.flt _) (.flt _) _); refine BO_add_ff ?_) | ((with_reducible show BO _ _ _ .Sub (.flt _) (.flt _) _); refine BO_sub_ff ?_) | ((with_reducible show BO _ _ _ .Add (.int _) (.int _) _); refine BO_add_ii ?_) | ((with_reducible show BO _ _ _ .Sub (.int _) (.int _) _); refine BO_sub_ii ?_) | ((with_reducible show BO _ _ _ .Mult (.int _) (.int _) _); refine BO_mul_ii (by first | exact mulL (by omega) (by omega) | exact mulR (by omega) (by omega)) ?_) | ((with_reducible show BO _ _ _ .Pow (.int _) (.int _) _); first | refine BO_pow_eq pow40 (by decide) (by decide) ?_ | refine BO_pow_eq pow52 (by decide) (by decide) ?_ | refine BO_pow_eq pow53 (by decide) (by decide) ?_ | refine BO_pow2 (by omega) (by omega) ?_) | ((with_reducible show BO _ _ _ .Mod (.int _) (.int _) _); refine BO_mod_p (by omega) ?_) | ((with_reducible show BO _ _ _ .FloorDiv (.int _) (.int _) _); refine BO_div_p (by omega) (by omega) ?_) | ((with_reducible show BO _ _ _ .Div (.int _) (.int _) _); refine BO_div_s (Rm.handled (by first | assumption | apply_assumption)) (by omega) (by omega) (by omega) ?_) | ((with_reducible show IO _ _ _ (.tup _) (.int (OfNat.ofNat _)) _); refine IO_ti (by decide) rfl (by decide) ?_) | ((with_reducible show UO _ _ _ .USub (.int _) _); refine UO_neg_i ?_))
      refine WC_min_fff (hA.deeper _).handled ?_
      show WS _ _ _ _ _ (Store.set _ _ (.dat (.flt (mn3 r g b)))) _ _
      unfold HlsOk at hok
      unfold toH toS
      unfold toL at hok ⊢
      rw [show greyF r g b = (Float64.cmp (mn3 r g b) (mx3 r g b) == some .eq) from rfl] at hok ⊢
      generalize mx3 r g b = M at hok ⊢
      generalize mn3 r g b = N at hok ⊢
      refine WS_cons (WX_assign (.inl rfl) ?_)
      repeat (first | ((with_reducible show WE _ _ _ _ _ _ (.BinOp _ _ _ _) _); refine WE_binop ?_) | ((with_reducible show WE _ _ _ _ _ _ (.Constant (.float _) _ _) _); refine WE_flt ?_) | ((with_reducible show WE _ _ _ _ _ _ (.Constant (.int _) _ _) _); refine WE_int ?_) | ((with_reducible show WE _ _ _ _ _ _ (.Constant (.bool _) _ _) _); refine WE_bool ?_) | ((with_reducible show WE _ _ _ _ _ _ (.Name _ _) _); first | refine WE_name rfl ?_ | refine WE_name (by assumption) ?_ | refine WE_name (comp_get (by assumption)) ?_) | ((with_reducible show WE _ _ _ _ _ _ (.Tuple _ _ _) _); refine WE_tuple ?_) | ((with_reducible show WE _ _ _ _ _ _ (.List _ _) _); refine WE_list ?_) | ((with_reducible show WE _ _ _ _ _ _ (.Subscript _ (.Slice _ _ none _) _) _); refine WE_cut ?_) | ((with_reducible show WE _ _ _ _ _ _ (.Subscript _ _ _) _); refine WE_item ?_) | ((with_reducible show WE _ _ _ _ _ _ (.UnaryOp _ _ _) _); refine WE_unary ?_) | ((with_reducible show WP _ _ _ _ _ _ (some _) _); refine WP_some ?_) | ((with_reducible show WP _ _ _ _ _ _ none _); refine WP_none ?_) | ((with_reducible show WEs _ _ _ _ _ _ (_ :: _) _); refine WEs_cons ?_) | ((with_reducible show WEs _ _ _ _ _ _ [] _); refine WEs_nil ?_) | ((with_reducible show BO _ _ _ .Mult (.flt _) (.flt _) _); refine BO_mul_ff ?_) | ((with_reducible show BO _ _ _ .Add (.flt _) (.flt _) _); refine BO_add_ff ?_) | ((with_reducible show BO _ _ _ .Sub (.flt _) (.flt _) _); refine BO_sub_ff ?_) | ((with_reducible show BO _ _ _ .Add (.int _) (.int _) _); refine BO_add_ii ?_) | ((with_reducible show BO _ _ _ .Sub (.int _) (.int _) _); refine BO_sub_ii ?_) | ((with_reducible show BO _ _ _ .Mult (.int _) (.int _) _); refine BO_mul_ii (by first | exact mulL (by omega) (by omega) | exact mulR (by omega) (by omega)) ?_) | ((with_reducible show BO _ _ _ .Pow (.int _) (.int _) _); first | refine BO_pow_eq pow40 (by decide) (by decide) ?_ | refine BO_pow_eq pow52 (by decide) (by decide) ?_ | refine BO_pow_eq pow53 (by decide) (by decide) ?_ | refine BO_pow2 (by omega) (by omega) ?_) | ((with_reducible show BO _ _ _ .Mod (.int _) (.int _) _); refine BO_mod_p (by omega) ?_) | ((with_reducible show BO _ _ _ .FloorDiv (.int _) (.int _) _); refine BO_div_p (by omega) (by omega) ?_) | ((with_reducible show BO _ _ _ .Div (.int _) (.int _) _); refine BO_div_s (Rm.handled (by first | assumption | apply_assumption)) (by omega) (by omega) (by omega) ?_) | ((with_reducible show IO _ _ _ (.tup _) (.int (OfNat.ofNat _)) _); refine IO_ti (by decide) rfl (by decide) ?_) | ((with_reducible show UO _ _ _ .USub (.int _) _); refine UO_neg_i ?_))
      refine WS_cons (WX_assign (.inl rfl) ?_)
      repeat (first | ((with_reducible show WE _ _ _ _ _ _ (.BinOp _ _ _ _) _); refine WE_binop ?_) | ((with_reducible show WE _ _ _ _ _ _ (.Constant (.float _) _ _) _); refine WE_flt ?_) | ((with_reducible show WE _ _ _ _ _ _ (.Constant (.int _) _ _) _); refine WE_int ?_) | ((with_reducible show WE _ _ _ _ _ _ (.Constant (.bool _) _ _) _); refine WE_bool ?_) | ((with_reducible show WE _ _ _ _ _ _ (.Name _ _) _); first | refine WE_name rfl ?_ | refine WE_name (by assumption) ?_ | refine WE_name (comp_get (by assumption)) ?_) | ((with_reducible show WE _ _ _ _ _ _ (.Tuple _ _ _) _); refine WE_tuple ?_) | ((with_reducible show WE _ _ _ _ _ _ (.List _ _) _); refine WE_list ?_) | ((with_reducible show WE _ _ _ _ _ _ (.Subscript _ (.Slice _ _ none _) _) _); refine WE_cut ?_) | ((with_reducible show WE _ _ _ _ _ _ (.Subscript _ _ _) _); refine WE_item ?_) | ((with_reducible show WE _ _ _ _ _ _ (.UnaryOp _ _ _) _); refine WE_unary ?_) | ((with_reducible show WP _ _ _ _ _ _ (some _) _); refine WP_some ?_) | ((with_reducible show WP _ _ _ _ _ _ none _); refine WP_none ?_) | ((with_reducible show WEs _ _ _ _ _ _ (_ :: _) _); refine WEs_cons ?_) | ((with_reducible show WEs _ _ _ _ _ _ [] _); refine WEs_nil ?_) | ((with_reducible show BO _ _ _ .Mult (.flt _) (.flt _) _); refine BO_mul_ff ?_) | ((with_reducible show BO _ _ _ .Add (.flt _) (.flt _) _); refine BO_add_ff ?_) | ((with_reducible show BO _ _ _ .Sub (.flt _) (.flt _) _); refine BO_sub_ff ?_) | ((with_reducible show BO _ _ _ .Add (.int _) (.int _) _); refine BO_add_ii ?_) | ((with_reducible show BO _ _ _ .Sub (.int _) (.int _) _); refine BO_sub_ii ?_) | ((with_reducible show BO _ _ _ .Mult (.int _) (.int _) _); refine BO_mul_ii (by first | exact mulL (by omega) (by omega) | exact mulR (by omega) (by omega)) ?_) | ((with_reducible show BO _ _ _ .Pow (.int _) (.int _) _); first | refine BO_pow_eq pow40 (by decide) (by decide) ?_ | refine BO_pow_eq pow52 (by decide) (by decide) ?_ | refine BO_pow_eq pow53 (by decide) (by decide) ?_ | refine BO_pow2 (by omega) (by omega) ?_) | ((with_reducible show BO _ _ _ .Mod (.int _) (.int _) _); refine BO_mod_p (by omega) ?_) | ((with_reducible show BO _ _ _ .FloorDiv (.int _) (.int _) _); refine BO_div_p (by omega) (by omega) ?_) | ((with_reducible show BO _ _ _ .Div (.int _) (.int _) _); refine BO_div_s (Rm.handled (by first | assumption | apply_assumption)) (by omega) (by omega) (by omega) ?_) | ((with_reducible show IO _ _ _ (.tup _) (.int (OfNat.ofNat _)) _); refine IO_ti (by decide) rfl (by decide) ?_) | ((with_reducible show UO _ _ _ .USub (.int _) _); refine UO_neg_i ?_))
      refine WS_cons (WX_assign (.inl rfl) ?_)
      repeat (first | ((with_reducible show WE _ _ _ _ _ _ (.BinOp _ _ _ _) _); refine WE_binop ?_) | ((with_reducible show WE _ _ _ _ _ _ (.Constant (.float _) _ _) _); refine WE_flt ?_) | ((with_reducible show WE _ _ _ _ _ _ (.Constant (.int _) _ _) _); refine WE_int ?_) | ((with_reducible show WE _ _ _ _ _ _ (.Constant (.bool _) _ _) _); refine WE_bool ?_) | ((with_reducible show WE _ _ _ _ _ _ (.Name _ _) _); first | refine WE_name rfl ?_ | refine WE_name (by assumption) ?_ | refine WE_name (comp_get (by assumption)) ?_) | ((with_reducible show WE _ _ _ _ _ _ (.Tuple _ _ _) _); refine WE_tuple ?_) | ((with_reducible show WE _ _ _ _ _ _ (.List _ _) _); refine WE_list ?_) | ((with_reducible show WE _ _ _ _ _ _ (.Subscript _ (.Slice _ _ none _) _) _); refine WE_cut ?_) | ((with_reducible show WE _ _ _ _ _ _ (.Subscript _ _ _) _); refine WE_item ?_) | ((with_reducible show WE _ _ _ _ _ _ (.UnaryOp _ _ _) _); refine WE_unary ?_) | ((with_reducible show WP _ _ _ _ _ _ (some _) _); refine WP_some ?_) | ((with_reducible show WP _ _ _ _ _ _ none _); refine WP_none ?_) | ((with_reducible show WEs _ _ _ _ _ _ (_ :: _) _); refine WEs_cons ?_) | ((with_reducible show WEs _ _ _ _ _ _ [] _); refine WEs_nil ?_) | ((with_reducible show BO _ _ _ .Mult (.flt _) (.flt _) _); refine BO_mul_ff ?_) | ((with_reducible show BO _ _ _ .Add (.flt _) (.flt _) _); refine BO_add_ff ?_) | ((with_reducible show BO _ _ _ .Sub (.flt _) (.flt _) _); refine BO_sub_ff ?_) | ((with_reducible show BO _ _ _ .Add (.int _) (.int _) _); refine BO_add_ii ?_) | ((with_reducible show BO _ _ _ .Sub (.int _) (.int _) _); refine BO_sub_ii ?_) | ((with_reducible show BO _ _ _ .Mult (.int _) (.int _) _); refine BO_mul_ii (by first | exact mulL (by omega) (by omega) | exact mulR (by omega) (by omega)) ?_) | ((with_reducible show BO _ _ _ .Pow (.int _) (.int _) _); first | refine BO_pow_eq pow40 (by decide) (by decide) ?_ | refine BO_pow_eq pow52 (by decide) (by decide) ?_ | refine BO_pow_eq pow53 (by decide) (by decide) ?_ | refine BO_pow2 (by omega) (by omega) ?_) | ((with_reducible show BO _ _ _ .Mod (.int _) (.int _) _); refine BO_mod_p (by omega) ?_) | ((with_reducible show BO _ _ _ .FloorDiv (.int _) (.int _) _); refine BO_div_p (by omega) (by omega) ?_) | ((with_reducible show BO _ _ _ .Div (.int _) (.int _) _); refine BO_div_s (Rm.handled (by first | assumption | apply_assumption)) (by omega) (by omega) (by omega) ?_) | ((with_reducible show IO _ _ _ (.tup _) (.int (OfNat.ofNat _)) _); refine IO_ti (by decide) rfl (by decide) ?_) | ((with_reducible show UO _ _ _ .USub (.int _) _); refine UO_neg_i ?_))
      refine BO_div_ff (by decide +kernel) ?_
      show WS _ _ _ _ _ (Store.set _ _ (.dat (.flt (litF M N)))) _ _
      refine WS_cons (WX_if (WT_compare ?_))
      repeat (first | ((with_reducible show WE _ _ _ _ _ _ (.BinOp _ _ _ _) _); refine WE_binop ?_) | ((with_reducible show WE _ _ _ _ _ _ (.Constant (.float _) _ _) _); refine WE_flt ?_) | ((with_reducible show WE _ _ _ _ _ _ (.Constant (.int _) _ _) _); refine WE_int ?_) | ((with_reducible show WE _ _ _ _ _ _ (.Constant (.bool _) _ _) _); refine WE_bool ?_) | ((with_reducible show WE _ _ _ _ _ _ (.Name _ _) _); first | refine WE_name rfl ?_ | refine WE_name (by assumption) ?_ | refine WE_name (comp_get (by assumption)) ?_) | ((with_reducible show WE _ _ _ _ _ _ (.Tuple _ _ _) _); refine WE_tuple ?_) | ((with_reducible show WE _ _ _ _ _ _ (.List _ _) _); refine WE_list ?_) | ((with_reducible show WE _ _ _ _ _ _ (.Subscript _ (.Slice _ _ none _) _) _); refine WE_cut ?_) | ((with_reducible show WE _ _ _ _ _ _ (.Subscript _ _ _) _); refine WE_item ?_) | ((with_reducible show WE _ _ _ _ _ _ (.UnaryOp _ _ _) _); refine WE_unary ?_) | ((with_reducible show WP _ _ _ _ _ _ (some _) _); refine WP_some ?_) | ((with_reducible show WP _ _ _ _ _ _ none _); refine WP_none ?_) | ((with_reducible show WEs _ _ _ _ _ _ (_ :: _) _); refine WEs_cons ?_) | ((with_reducible show WEs _ _ _ _ _ _ [] _); refine WEs_nil ?_) | ((with_reducible show BO _ _ _ .Mult (.flt _) (.flt _) _); refine BO_mul_ff ?_) | ((with_reducible show BO _ _ _ .Add (.flt _) (.flt _) _); refine BO_add_ff ?_) | ((with_reducible show BO _ _ _ .Sub (.flt _) (.flt _) _); refine BO_sub_ff ?_) | ((with_reducible show BO _ _ _ .Add (.int _) (.int _) _); refine BO_add_ii ?_) | ((with_reducible show BO _ _ _ .Sub (.int _) (.int _) _); refine BO_sub_ii ?_) | ((with_reducible show BO _ _ _ .Mult (.int _) (.int _) _); refine BO_mul_ii (by first | exact mulL (by omega) (by omega) | exact mulR (by omega) (by omega)) ?_) | ((with_reducible show BO _ _ _ .Pow (.int _) (.int _) _); first | refine BO_pow_eq pow40 (by decide) (by decide) ?_ | refine BO_pow_eq pow52 (by decide) (by decide) ?_ | refine BO_pow_eq pow53 (by decide) (by decide) ?_ | refine BO_pow2 (by omega) (by omega) ?_) | ((with_reducible show BO _ _ _ .Mod (.int _) (.int _) _); refine BO_mod_p (by omega) ?_) | ((with_reducible show BO _ _ _ .FloorDiv (.int _) (.int _) _); refine BO_div_p (by omega) (by omega) ?_) | ((with_reducible show BO _ _ _ .Div (.int _) (.int _) _); refine BO_div_s (Rm.handled (by first | assumption | apply_assumption)) (by omega) (by omega) (by omega) ?_) | ((with_reducible show IO _ _ _ (.tup _) (.int (OfNat.ofNat _)) _); refine IO_ti (by decide) rfl (by decide) ?_) | ((with_reducible show UO _ _ _ .USub (.int _) _); refine UO_neg_i ?_))
      refine CO_eq_ff ?_
      cases h1 : (Float64.cmp N M == some .eq) with
      | true =>
        refine WS_cons (WX_return ?_)
        repeat (first | ((with_reducible show WE _ _ _ _ _ _ (.BinOp _ _ _ _) _); refine WE_binop ?_) | ((with_reducible show WE _ _ _ _ _ _ (.Constant (.float _) _ _) _); refine WE_flt ?_) | ((with_reducible show WE _ _ _ _ _ _ (.Constant (.int _) _ _) _); refine WE_int ?_) | ((with_reducible show WE _ _ _ _ _ _ (.Constant (.bool _) _ _) _); refine WE_bool ?_) | ((with_reducible show WE _ _ _ _ _ _ (.Name _ _) _); first | refine WE_name rfl ?_ | refine WE_name (by assumption) ?_ | refine WE_name (comp_get (by assumption)) ?_) | ((with_reducible show WE _ _ _ _ _ _ (.Tuple _ _ _) _); refine WE_tuple ?_) | ((with_reducible show WE _ _ _ _ _ _ (.List _ _) _); refine WE_list ?_) | ((with_reducible show WE _ _ _ _ _ _ (.Subscript _ (.Slice _ _ none _) _) _); refine WE_cut ?_) | ((with_reducible show WE _ _ _ _ _ _ (.Subscript _ _ _) _); refine WE_item ?_) | ((with_reducible show WE _ _ _ _ _ _ (.UnaryOp _ _ _) _); refine WE_unary ?_) | ((with_reducible show WP _ _ _ _ _ _ (some _) _); refine WP_some ?_) | ((with_reducible show WP _ _ _ _ _ _ none _); refine WP_none ?_) | ((with_reducible show WEs _ _ _ _ _ _ (_ :: _) _); refine WEs_cons ?_) | ((with_reducible show WEs _ _ _ _ _ _ [] _); refine WEs_nil ?_) | ((with_reducible show BO _ _ _ .Mult (.flt _) (.flt _) _); refine BO_mul_ff ?_) | ((with_reducible show BO _ _ _ .Add (.flt _) (.flt _) _); refine BO_add_ff ?_) | ((with_reducible show BO _ _ _ .Sub (.flt _) (.flt _) _); refine BO_sub_ff ?_) | ((with_reducible show BO _ _ _ .Add (.int _) (.int _) _); refine BO_add_ii ?_) | ((with_reducible show BO _ _ _ .Sub (.int _) (.int _) _); refine BO_sub_ii ?_) | ((with_reducible show BO _ _ _ .Mult (.int _) (.int _) _); refine BO_mul_ii (by first | exact mulL (by omega) (by omega) | exact mulR (by omega) (by omega)) ?_) | ((with_reducible show BO _ _ _ .Pow (.int _) (.int _) _); first | refine BO_pow_eq pow40 (by decide) (by decide) ?_ | refine BO_pow_eq pow52 (by decide) (by decide) ?_ | refine BO_pow_eq pow53 (by decide) (by decide) ?_ | refine BO_pow2 (by omega) (by omega) ?_) | ((with_reducible show BO _ _ _ .Mod (.int _) (.int _) _); refine BO_mod_p (by omega) ?_) | ((with_reducible show BO _ _ _ .FloorDiv (.int _) (.int _) _); refine BO_div_p (by omega) (by omega) ?_) | ((with_reducible show BO _ _ _ .Div (.int _) (.int _) _); refine BO_div_s (Rm.handled (by first | assumption | apply_assumption)) (by omega) (by omega) (by omega) ?_) | ((with_reducible show IO _ _ _ (.tup _) (.int (OfNat.ofNat _)) _); refine IO_ti (by decide) rfl (by decide) ?_) | ((with_reducible show UO _ _ _ .USub (.int _) _); refine UO_neg_i ?_))
        exact ⟨by simp, rfl⟩
      | false =>
      obtain ⟨z1, z2, z3⟩ := hok h1
      refine WS_nil ?_
      refine WS_cons (WX_if_set (x := Str.ofString "s") (c := leF (litF M N) 4602678819172646912) (va := Float64.div (Float64.sub M N) (Float64.add M N)) (vb := Float64.div (Float64.sub M N) (Float64.sub (Float64.sub 4611686018427387904 M) N)) ?_ ?_ ?_ ?_)
      · refine WT_compare ?_
        repeat (first | ((with_reducible show WE _ _ _ _ _ _ (.BinOp _ _ _ _) _); refine WE_binop ?_) | ((with_reducible show WE _ _ _ _ _ _ (.Constant (.float _) _ _) _); refine WE_flt ?_) | ((with_reducible show WE _ _ _ _ _ _ (.Constant (.int _) _ _) _); refine WE_int ?_) | ((with_reducible show WE _ _ _ _ _ _ (.Constant (.bool _) _ _) _); refine WE_bool ?_) | ((with_reducible show WE _ _ _ _ _ _ (.Name _ _) _); first | refine WE_name rfl ?_ | refine WE_name (by assumption) ?_ | refine WE_name (comp_get (by assumption)) ?_) | ((with_reducible show WE _ _ _ _ _ _ (.Tuple _ _ _) _); refine WE_tuple ?_) | ((with_reducible show WE _ _ _ _ _ _ (.List _ _) _); refine WE_list ?_) | ((with_reducible show WE _ _ _ _ _ _ (.Subscript _ (.Slice _ _ none _) _) _); refine WE_cut ?_) | ((with_reducible show WE _ _ _ _ _ _ (.Subscript _ _ _) _); refine WE_item ?_) | ((with_reducible show WE _ _ _ _ _ _ (.UnaryOp _ _ _) _); refine WE_unary ?_) | ((with_reducible show WP _ _ _ _ _ _ (some _) _); refine WP_some ?_) | ((with_reducible show WP _ _ _ _ _ _ none _); refine WP_none ?_) | ((with_reducible show WEs _ _ _ _ _ _ (_ :: _) _); refine WEs_cons ?_) | ((with_reducible show WEs _ _ _ _ _ _ [] _); refine WEs_nil ?_) | ((with_reducible show BO _ _ _ .Mult (.flt _) (.flt _) _); refine BO_mul_ff ?_) | ((with_reducible show BO _ _ _ .Add (.flt _) (.flt _) _); refine BO_add_ff ?_) | ((with_reducible show BO _ _ _ .Sub (.flt _) (.flt _) _); refine BO_sub_ff ?_) | ((with_reducible show BO _ _ _ .Add (.int _) (.int _) _); refine BO_add_ii ?_) | ((with_reducible show BO _ _ _ .Sub (.int _) (.int _) _); refine BO_sub_ii ?_) | ((with_reducible show BO _ _ _ .Mult (.int _) (.int _) _); refine BO_mul_ii (by first | exact mulL (by omega) (by omega) | exact mulR (by omega) (by omega)) ?_) | ((with_reducible show BO _ _ _ .Pow (.int _) (.int _) _); first | refine BO_pow_eq pow40 (by decide) (by decide) ?_ | refine BO_pow_eq pow52 (by decide) (by decide) ?_ | refine BO_pow_eq pow53 (by decide) (by decide) ?_ | refine BO_pow2 (by omega) (by omega) ?_) | ((with_reducible show BO _ _ _ .Mod (.int _) (.int _) _); refine BO_mod_p (by omega) ?_) | ((with_reducible show BO _ _ _ .FloorDiv (.int _) (.int _) _); refine BO_div_p (by omega) (by omega) ?_) | ((with_reducible show BO _ _ _ .Div (.int _) (.int _) _); refine BO_div_s (Rm.handled (by first | assumption | apply_assumption)) (by omega) (by omega) (by omega) ?_) | ((with_reducible show IO _ _ _ (.tup _) (.int (OfNat.ofNat _)) _); refine IO_ti (by decide) rfl (by decide) ?_) | ((with_reducible show UO _ _ _ .USub (.int _) _); refine UO_neg_i ?_))
        exact CO_le_ff rfl
      · intro hc
        refine WS_cons (WX_assign (.inl rfl) ?_)
        repeat (first | ((with_reducible show WE _ _ _ _ _ _ (.BinOp _ _ _ _) _); refine WE_binop ?_) | ((with_reducible show WE _ _ _ _ _ _ (.Constant (.float _) _ _) _); refine WE_flt ?_) | ((with_reducible show WE _ _ _ _ _ _ (.Constant (.int _) _ _) _); refine WE_int ?_) | ((with_reducible show WE _ _ _ _ _ _ (.Constant (.bool _) _ _) _); refine WE_bool ?_) | ((with_reducible show WE _ _ _ _ _ _ (.Name _ _) _); first | refine WE_name rfl ?_ | refine WE_name (by assumption) ?_ | refine WE_name (comp_get (by assumption)) ?_) | ((with_reducible show WE _ _ _ _ _ _ (.Tuple _ _ _) _); refine WE_tuple ?_) | ((with_reducible show WE _ _ _ _ _ _ (.List _ _) _); refine WE_list ?_) | ((with_reducible show WE _ _ _ _ _ _ (.Subscript _ (.Slice _ _ none _) _) _); refine WE_cut ?_) | ((with_reducible show WE _ _ _ _ _ _ (.Subscript _ _ _) _); refine WE_item ?_) | ((with_reducible show WE _ _ _ _ _ _ (.UnaryOp _ _ _) _); refine WE_unary ?_) | ((with_reducible show WP _ _ _ _ _ _ (some _) _); refine WP_some ?_) | ((with_reducible show WP _ _ _ _ _ _ none _); refine WP_none ?_) | ((with_reducible show WEs _ _ _ _ _ _ (_ :: _) _); refine WEs_cons ?_) | ((with_reducible show WEs _ _ _ _ _ _ [] _); refine WEs_nil ?_) | ((with_reducible show BO _ _ _ .Mult (.flt _) (.flt _) _); refine BO_mul_ff ?_) | ((with_reducible show BO _ _ _ .Add (.flt _) (.flt _) _); refine BO_add_ff ?_) | ((with_reducible show BO _ _ _ .Sub (.flt _) (.flt _) _); refine BO_sub_ff ?_) | ((with_reducible show BO _ _ _ .Add (.int _) (.int _) _); refine BO_add_ii ?_) | ((with_reducible show BO _ _ _ .Sub (.int _) (.int _) _); refine BO_sub_ii ?_) | ((with_reducible show BO _ _ _ .Mult (.int _) (.int _) _); refine BO_mul_ii (by first | exact mulL (by omega) (by omega) | exact mulR (by omega) (by omega)) ?_) | ((with_reducible show BO _ _ _ .Pow (.int _) (.int _) _); first | refine BO_pow_eq pow40 (by decide) (by decide) ?_ | refine BO_pow_eq pow52 (by decide) (by decide) ?_ | refine BO_pow_eq pow53 (by decide) (by decide) ?_ | refine BO_pow2 (by omega) (by omega) ?_) | ((with_reducible show BO _ _ _ .Mod (.int _) (.int _) _); refine BO_mod_p (by omega) ?_) | ((with_reducible show BO _ _ _ .FloorDiv (.int _) (.int _) _); refine BO_div_p (by omega) (by omega) ?_) | ((with_reducible show BO _ _ _ .Div (.int _) (.int _) _); refine BO_div_s (Rm.handled (by first | assumption | apply_assumption)) (by omega) (by omega) (by omega) ?_) | ((with_reducible show IO _ _ _ (.tup _) (.int (OfNat.ofNat _)) _); refine IO_ti (by decide) rfl (by decide) ?_) | ((with_reducible show UO _ _ _ .USub (.int _) _); refine UO_neg_i ?_))
        refine BO_div_ff (z2 hc) ?_
        exact WS_nil ⟨rfl, rfl⟩
      · intro hc
        refine WS_cons (WX_assign (.inl rfl) ?_)
        repeat (first | ((with_reducible show WE _ _ _ _ _ _ (.BinOp _ _ _ _) _); refine WE_binop ?_) | ((with_reducible show WE _ _ _ _ _ _ (.Constant (.float _) _ _) _); refine WE_flt ?_) | ((with_reducible show WE _ _ _ _ _ _ (.Constant (.int _) _ _) _); refine WE_int ?_) | ((with_reducible show WE _ _ _ _ _ _ (.Constant (.bool _) _ _) _); refine WE_bool ?_) | ((with_reducible show WE _ _ _ _ _ _ (.Name _ _) _); first | refine WE_name rfl ?_ | refine WE_name (by assumption) ?_ | refine WE_name (comp_get (by assumption)) ?_) | ((with_reducible show WE _ _ _ _ _ _ (.Tuple _ _ _) _); refine WE_tuple ?_) | ((with_reducible show WE _ _ _ _ _ _ (.List _ _) _); refine WE_list ?_) | ((with_reducible show WE _ _ _ _ _ _ (.Subscript _ (.Slice _ _ none _) _) _); refine WE_cut ?_) | ((with_reducible show WE _ _ _ _ _ _ (.Subscript _ _ _) _); refine WE_item ?_) | ((with_reducible show WE _ _ _ _ _ _ (.UnaryOp _ _ _) _); refine WE_unary ?_) | ((with_reducible show WP _ _ _ _ _ _ (some _) _); refine WP_some ?_) | ((with_reducible show WP _ _ _ _ _ _ none _); refine WP_none ?_) | ((with_reducible show WEs _ _ _ _ _ _ (_ :: _) _); refine WEs_cons ?_) | ((with_reducible show WEs _ _ _ _ _ _ [] _); refine WEs_nil ?_) | ((with_reducible show BO _ _ _ .Mult (.flt _) (.flt _) _); refine BO_mul_ff ?_) | ((with_reducible show BO _ _ _ .Add (.flt _) (.flt _) _); refine BO_add_ff ?_) | ((with_reducible show BO _ _ _ .Sub (.flt _) (.flt _) _); refine BO_sub_ff ?_) | ((with_reducible show BO _ _ _ .Add (.int _) (.int _) _); refine BO_add_ii ?_) | ((with_reducible show BO _ _ _ .Sub (.int _) (.int _) _); refine BO_sub_ii ?_) | ((with_reducible show BO _ _ _ .Mult (.int _) (.int _) _); refine BO_mul_ii (by first | exact mulL (by omega) (by omega) | exact mulR (by omega) (by omega)) ?_) | ((with_reducible show BO _ _ _ .Pow (.int _) (.int _) _); first | refine BO_pow_eq pow40 (by decide) (by decide) ?_ | refine BO_pow_eq pow52 (by decide) (by decide) ?_ | refine BO_pow_eq pow53 (by decide) (by decide) ?_ | refine BO_pow2 (by omega) (by omega) ?_) | ((with_reducible show BO _ _ _ .Mod (.int _) (.int _) _); refine BO_mod_p (by omega) ?_) | ((with_reducible show BO _ _ _ .FloorDiv (.int _) (.int _) _); refine BO_div_p (by omega) (by omega) ?_) | ((with_reducible show BO _ _ _ .Div (.int _) (.int _) _); refine BO_div_s (Rm.handled (by first | assumption | apply_assumption)) (by omega) (by omega) (by omega) ?_) | ((with_reducible show IO _ _ _ (.tup _) (.int (OfNat.ofNat _)) _); refine IO_ti (by decide) rfl (by decide) ?_) | ((with_reducible show UO _ _ _ .USub (.int _) _); refine UO_neg_i ?_))
        refine BO_div_ff (z3 hc) ?_
        exact WS_nil ⟨rfl, rfl⟩
      show WS _ _ _ _ _ (Store.set _ _ (.dat (.flt (satF M N)))) _ _
      generalize satF M N = sa
      generalize litF M N = li
      refine WS_cons (WX_assign (.inl rfl) ?_)
      repeat (first | ((with_reducible show WE _ _ _ _ _ _ (.BinOp _ _ _ _) _); refine WE_binop ?_) | ((with_reducible show WE _ _ _ _ _ _ (.Constant (.float _) _ _) _); refine WE_flt ?_) | ((with_reducible show WE _ _ _ _ _ _ (.Constant (.int _) _ _) _); refine WE_int ?_) | ((with_reducible show WE _ _ _ _ _ _ (.Constant (.bool _) _ _) _); refine WE_bool ?_) | ((with_reducible show WE _ _ _ _ _ _ (.Name _ _) _); first | refine WE_name rfl ?_ | refine WE_name (by assumption) ?_ | refine WE_name (comp_get (by assumption)) ?_) | ((with_reducible show WE _ _ _ _ _ _ (.Tuple _ _ _) _); refine WE_tuple ?_) | ((with_reducible show WE _ _ _ _ _ _ (.List _ _) _); refine WE_list ?_) | ((with_reducible show WE _ _ _ _ _ _ (.Subscript _ (.Slice _ _ none _) _) _); refine WE_cut ?_) | ((with_reducible show WE _ _ _ _ _ _ (.Subscript _ _ _) _); refine WE_item ?_) | ((with_reducible show WE _ _ _ _ _ _ (.UnaryOp _ _ _) _); refine WE_unary ?_) | ((with_reducible show WP _ _ _ _ _ _ (some _) _); refine WP_some ?_) | ((with_reducible show WP _ _ _ _ _ _ none _); refine WP_none ?_) | ((with_reducible show WEs _ _ _ _ _ _ (_ :: _) _); refine WEs_cons ?_) | ((with_reducible show WEs _ _ _ _ _ _ [] _); refine WEs_nil ?_) | ((with_reducible show BO _ _ _ .Mult (.flt _) (.flt _) _); refine BO_mul_ff ?_) | ((with_reducible show BO _ _ _ .Add (.flt _) (.flt _) _); refine BO_add_ff ?_) | ((with_reducible show BO _ _ _ .Sub (.flt _) (.flt _) _); refine BO_sub_ff ?_) | ((with_reducible show BO _ _ _ .Add (.int _) (.int _) _); refine BO_add_ii ?_) | ((with_reducible show BO _ _ _ .Sub (.int _) (.int _) _); refine BO_sub_ii ?_) | ((with_reducible show BO _ _ _ .Mult (.int _) (.int _) _); refine BO_mul_ii (by first | exact mulL (by omega) (by omega) | exact mulR (by omega) (by omega)) ?_) | ((with_reducible show BO _ _ _ .Pow (.int _) (.int _) _); first | refine BO_pow_eq pow40 (by decide) (by decide) ?_ | refine BO_pow_eq pow52 (by decide) (by decide) ?_ | refine BO_pow_eq pow53 (by decide) (by decide) ?_ | refine BO_pow2 (by omega) (by omega) ?_) | ((with_reducible show BO _ _ _ .Mod (.int _) (.int _) _); refine BO_mod_p (by omega) ?_) | ((with_reducible show BO _ _ _ .FloorDiv (.int _) (.int _) _); refine BO_div_p (by omega) (by omega) ?_) | ((with_reducible show BO _ _ _ .Div (.int _) (.int _) _); refine BO_div_s (Rm.handled (by first | assumption | apply_assumption)) (by omega) (by omega) (by omega) ?_) | ((with_reducible show IO _ _ _ (.tup _) (.int (OfNat.ofNat _)) _); refine IO_ti (by decide) rfl (by decide) ?_) | ((with_reducible show UO _ _ _ .USub (.int _) _); refine UO_neg_i ?_))
      refine BO_div_ff z1 ?_
      show WS _ _ _ _ _ (Store.set _ _ (.dat (.flt (rcF M N r)))) _ _
      refine WS_cons (WX_assign (.inl rfl) ?_)
      repeat (first | ((with_reducible show WE _ _ _ _ _ _ (.BinOp _ _ _ _) _); refine WE_binop ?_) | ((with_reducible show WE _ _ _ _ _ _ (.Constant (.float _) _ _) _); refine WE_flt ?_) | ((with_reducible show WE _ _ _ _ _ _ (.Constant (.int _) _ _) _); refine WE_int ?_) | ((with_reducible show WE _ _ _ _ _ _ (.Constant (.bool _) _ _) _); refine WE_bool ?_) | ((with_reducible show WE _ _ _ _ _ _ (.Name _ _) _); first | refine WE_name rfl ?_ | refine WE_name (by assumption) ?_ | refine WE_name (comp_get (by assumption)) ?_) | ((with_reducible show WE _ _ _ _ _ _ (.Tuple _ _ _) _); refine WE_tuple ?_) | ((with_reducible show WE _ _ _ _ _ _ (.List _ _) _); refine WE_list ?_) | ((with_reducible show WE _ _ _ _ _ _ (.Subscript _ (.Slice _ _ none _) _) _); refine WE_cut ?_) | ((with_reducible show WE _ _ _ _ _ _ (.Subscript _ _ _) _); refine WE_item ?_) | ((with_reducible show WE _ _ _ _ _ _ (.UnaryOp _ _ _) _); refine WE_unary ?_) | ((with_reducible show WP _ _ _ _ _ _ (some _) _); refine WP_some ?_) | ((with_reducible show WP _ _ _ _ _ _ none _); refine WP_none ?_) | ((with_reducible show WEs _ _ _ _ _ _ (_ :: _) _); refine WEs_cons ?_) | ((with_reducible show WEs _ _ _ _ _ _ [] _); refine WEs_nil ?_) | ((with_reducible show BO _ _ _ .Mult (.flt _) (.flt _) _); refine BO_mul_ff ?_) | ((with_reducible show BO _ _ _ .Add (.flt _) (.flt _) _); refine BO_add_ff ?_) | ((with_reducible show BO _ _ _ .Sub (.flt _) (.flt _) _); refine BO_sub_ff ?_) | ((with_reducible show BO _ _ _ .Add (.int _) (.int _) _); refine BO_add_ii ?_) | ((with_reducible show BO _ _ _ .Sub (.int _) (.int _) _); refine BO_sub_ii ?_) | ((with_reducible show BO _ _ _ .Mult (.int _) (.int _) _); refine BO_mul_ii (by first | exact mulL (by omega) (by omega) | exact mulR (by omega) (by omega)) ?_) | ((with_reducible show BO _ _ _ .Pow (.int _) (.int _) _); first | refine BO_pow_eq pow40 (by decide) (by decide) ?_ | refine BO_pow_eq pow52 (by decide) (by decide) ?_ | refine BO_pow_eq pow53 (by decide) (by decide) ?_ | refine BO_pow2 (by omega) (by omega) ?_) | ((with_reducible show BO _ _ _ .Mod (.int _) (.int _) _); refine BO_mod_p (by omega) ?_) | ((with_reducible show BO _ _ _ .FloorDiv (.int _) (.int _) _); refine BO_div_p (by omega) (by omega) ?_) | ((with_reducible show BO _ _ _ .Div (.int _) (.int _) _); refine BO_div_s (Rm.handled (by first | assumption | apply_assumption)) (by omega) (by omega) (by omega) ?_) | ((with_reducible show IO _ _ _ (.tup _) (.int (OfNat.ofNat _)) _); refine IO_ti (by decide) rfl (by decide) ?_) | ((with_reducible show UO _ _ _ .USub (.int _) _); refine UO_neg_i ?_))
      refine BO_div_ff z1 ?_
      show WS _ _ _ _ _ (Store.set _ _ (.dat (.flt (rcF M N g)))) _ _
      refine WS_cons (WX_assign (.inl rfl) ?_)
      repeat (first | ((with_reducible show WE _ _ _ _ _ _ (.BinOp _ _ _ _) _); refine WE_binop ?_) | ((with_reducible show WE _ _ _ _ _ _ (.Constant (.float _) _ _) _); refine WE_flt ?_) | ((with_reducible show WE _ _ _ _ _ _ (.Constant (.int _) _ _) _); refine WE_int ?_) | ((with_reducible show WE _ _ _ _ _ _ (.Constant (.bool _) _ _) _); refine WE_bool ?_) | ((with_reducible show WE _ _ _ _ _ _ (.Name _ _) _); first | refine WE_name rfl ?_ | refine WE_name (by assumption) ?_ | refine WE_name (comp_get (by assumption)) ?_) | ((with_reducible show WE _ _ _ _ _ _ (.Tuple _ _ _) _); refine WE_tuple ?_) | ((with_reducible show WE _ _ _ _ _ _ (.List _ _) _); refine WE_list ?_) | ((with_reducible show WE _ _ _ _ _ _ (.Subscript _ (.Slice _ _ none _) _) _); refine WE_cut ?_) | ((with_reducible show WE _ _ _ _ _ _ (.Subscript _ _ _) _); refine WE_item ?_) | ((with_reducible show WE _ _ _ _ _ _ (.UnaryOp _ _ _) _); refine WE_unary ?_) | ((with_reducible show WP _ _ _ _ _ _ (some _) _); refine WP_some ?_) | ((with_reducible show WP _ _ _ _ _ _ none _); refine WP_none ?_) | ((with_reducible show WEs _ _ _ _ _ _ (_ :: _) _); refine WEs_cons ?_) | ((with_reducible show WEs _ _ _ _ _ _ [] _); refine WEs_nil ?_) | ((with_reducible show BO _ _ _ .Mult (.flt _) (.flt _) _); refine BO_mul_ff ?_) | ((with_reducible show BO _ _ _ .Add (.flt _) (.flt _) _); refine BO_add_ff ?_) | ((with_reducible show BO _ _ _ .Sub (.flt _) (.flt _) _); refine BO_sub_ff ?_) | ((with_reducible show BO _ _ _ .Add (.int _) (.int _) _); refine BO_add_ii ?_) | ((with_reducible show BO _ _ _ .Sub (.int _) (.int _) _); refine BO_sub_ii ?_) | ((with_reducible show BO _ _ _ .Mult (.int _) (.int _) _); refine BO_mul_ii (by first | exact mulL (by omega) (by omega) | exact mulR (by omega) (by omega)) ?_) | ((with_reducible show BO _ _ _ .Pow (.int _) (.int _) _); first | refine BO_pow_eq pow40 (by decide) (by decide) ?_ | refine BO_pow_eq pow52 (by decide) (by decide) ?_ | refine BO_pow_eq pow53 (by decide) (by decide) ?_ | refine BO_pow2 (by omega) (by omega) ?_) | ((with_reducible show BO _ _ _ .Mod (.int _) (.int _) _); refine BO_mod_p (by omega) ?_) | ((with_reducible show BO _ _ _ .FloorDiv (.int _) (.int _) _); refine BO_div_p (by omega) (by omega) ?_) | ((with_reducible show BO _ _ _ .Div (.int _) (.int _) _); refine BO_div_s (Rm.handled (by first | assumption | apply_assumption)) (by omega) (by omega) (by omega) ?_) | ((with_reducible show IO _ _ _ (.tup _) (.int (OfNat.ofNat _)) _); refine IO_ti (by decide) rfl (by decide) ?_) | ((with_reducible show UO _ _ _ .USub (.int _) _); refine UO_neg_i ?_))
      refine BO_div_ff z1 ?_
      show WS _ _ _ _ _ (Store.set _ _ (.dat (.flt (rcF M N b)))) _ _
      refine WS_cons (WX_if_set (x := Str.ofString "h") (c := Float64.cmp r M == some .eq) (va := Float64.sub (rcF M N b) (rcF M N g)) (vb := if (Float64.cmp g M == some .eq) = true then Float64.sub (Float64.add 4611686018427387904 (rcF M N r)) (rcF M N b)
  else Float64.sub (Float64.add 4616189618054758400 (rcF M N g)) (rcF M N r)) ?_ ?_ ?_ ?_)
      · refine WT_compare ?_
        repeat (first | ((with_reducible show WE _ _ _ _ _ _ (.BinOp _ _ _ _) _); refine WE_binop ?_) | ((with_reducible show WE _ _ _ _ _ _ (.Constant (.float _) _ _) _); refine WE_flt ?_) | ((with_reducible show WE _ _ _ _ _ _ (.Constant (.int _) _ _) _); refine WE_int ?_) | ((with_reducible show WE _ _ _ _ _ _ (.Constant (.bool _) _ _) _); refine WE_bool ?_) | ((with_reducible show WE _ _ _ _ _ _ (.Name _ _) _); first | refine WE_name rfl ?_ | refine WE_name (by assumption) ?_ | refine WE_name (comp_get (by assumption)) ?_) | ((with_reducible show WE _ _ _ _ _ _ (.Tuple _ _ _) _); refine WE_tuple ?_) | ((with_reducible show WE _ _ _ _ _ _ (.List _ _) _); refine WE_list ?_) | ((with_reducible show WE _ _ _ _ _ _ (.Subscript _ (.Slice _ _ none _) _) _); refine WE_cut ?_) | ((with_reducible show WE _ _ _ _ _ _ (.Subscript _ _ _) _); refine WE_item ?_) | ((with_reducible show WE _ _ _ _ _ _ (.UnaryOp _ _ _) _); refine WE_unary ?_) | ((with_reducible show WP _ _ _ _ _ _ (some _) _); refine WP_some ?_) | ((with_reducible show WP _ _ _ _ _ _ none _); refine WP_none ?_) | ((with_reducible show WEs _ _ _ _ _ _ (_ :: _) _); refine WEs_cons ?_) | ((with_reducible show WEs _ _ _ _ _ _ [] _); refine WEs_nil ?_) | ((with_reducible show BO _ _ _ .Mult (.flt _) (.flt _) _); refine BO_mul_ff ?_) | ((with_reducible show BO _ _ _ .Add (.flt _) (.flt _) _); refine BO_add_ff ?_) | ((with_reducible show BO _ _ _ .Sub (.flt _) (.flt _) _); refine BO_sub_ff ?_) | ((with_reducible show BO _ _ _ .Add (.int _) (.int _) _); refine BO_add_ii ?_) | ((with_reducible show BO _ _ _ .Sub (.int _) (.int _) _); refine BO_sub_ii ?_) | ((with_reducible show BO _ _ _ .Mult (.int _) (.int _) _); refine BO_mul_ii (by first | exact mulL (by omega) (by omega) | exact mulR (by omega) (by omega)) ?_) | ((with_reducible show BO _ _ _ .Pow (.int _) (.int _) _); first | refine BO_pow_eq pow40 (by decide) (by decide) ?_ | refine BO_pow_eq pow52 (by decide) (by decide) ?_ | refine BO_pow_eq pow53 (by decide) (by decide) ?_ | refine BO_pow2 (by omega) (by omega) ?_) | ((with_reducible show BO _ _ _ .Mod (.int _) (.int _) _); refine BO_mod_p (by omega) ?_) | ((with_reducible show BO _ _ _ .FloorDiv (.int _) (.int _) _); refine BO_div_p (by omega) (by omega) ?_) | ((with_reducible show BO _ _ _ .Div (.int _) (.int _) _); refine BO_div_s (Rm.handled (by first | assumption | apply_assumption)) (by omega) (by omega) (by omega) ?_) | ((with_reducible show IO _ _ _ (.tup _) (.int (OfNat.ofNat _)) _); refine IO_ti (by decide) rfl (by decide) ?_) | ((with_reducible show UO _ _ _ .USub (.int _) _); refine UO_neg_i ?_))
        exact CO_eq_ff rfl
      · intro hc
        refine WS_cons (WX_assign (.inl rfl) ?_)
        repeat (first | ((with_reducible show WE _ _ _ _ _ _ (.BinOp _ _ _ _) _); refine WE_binop ?_) | ((with_reducible show WE _ _ _ _ _ _ (.Constant (.float _) _ _) _); refine WE_flt ?_) | ((with_reducible show WE _ _ _ _ _ _ (.Constant (.int _) _ _) _); refine WE_int ?_) | ((with_reducible show WE _ _ _ _ _ _ (.Constant (.bool _) _ _) _); refine WE_bool ?_) | ((with_reducible show WE _ _ _ _ _ _ (.Name _ _) _); first | refine WE_name rfl ?_ | refine WE_name (by assumption) ?_ | refine WE_name (comp_get (by assumption)) ?_) | ((with_reducible show WE _ _ _ _ _ _ (.Tuple _ _ _) _); refine WE_tuple ?_) | ((with_reducible show WE _ _ _ _ _ _ (.List _ _) _); refine WE_list ?_) | ((with_reducible show WE _ _ _ _ _ _ (.Subscript _ (.Slice _ _ none _) _) _); refine WE_cut ?_) | ((with_reducible show WE _ _ _ _ _ _ (.Subscript _ _ _) _); refine WE_item ?_) | ((with_reducible show WE _ _ _ _ _ _ (.UnaryOp _ _ _) _); refine WE_unary ?_) | ((with_reducible show WP _ _ _ _ _ _ (some _) _); refine WP_some ?_) | ((with_reducible show WP _ _ _ _ _ _ none _); refine WP_none ?_) | ((with_reducible show WEs _ _ _ _ _ _ (_ :: _) _); refine WEs_cons ?_) | ((with_reducible show WEs _ _ _ _ _ _ [] _); refine WEs_nil ?_) | ((with_reducible show BO _ _ _ .Mult (.flt _) (.flt _) _); refine BO_mul_ff ?_) | ((with_reducible show BO _ _ _ .Add (.flt _) (.flt _) _); refine BO_add_ff ?_) | ((with_reducible show BO _ _ _ .Sub (.flt _) (.flt _) _); refine BO_sub_ff ?_) | ((with_reducible show BO _ _ _ .Add (.int _) (.int _) _); refine BO_add_ii ?_) | ((with_reducible show BO _ _ _ .Sub (.int _) (.int _) _); refine BO_sub_ii ?_) | ((with_reducible show BO _ _ _ .Mult (.int _) (.int _) _); refine BO_mul_ii (by first | exact mulL (by omega) (by omega) | exact mulR (by omega) (by omega)) ?_) | ((with_reducible show BO _ _ _ .Pow (.int _) (.int _) _); first | refine BO_pow_eq pow40 (by decide) (by decide) ?_ | refine BO_pow_eq pow52 (by decide) (by decide) ?_ | refine BO_pow_eq pow53 (by decide) (by decide) ?_ | refine BO_pow2 (by omega) (by omega) ?_) | ((with_reducible show BO _ _ _ .Mod (.int _) (.int _) _); refine BO_mod_p (by omega) ?_) | ((with_reducible show BO _ _ _ .FloorDiv (.int _) (.int _) _); refine BO_div_p (by omega) (by omega) ?_) | ((with_reducible show BO _ _ _ .Div (.int _) (.int _) _); refine BO_div_s (Rm.handled (by first | assumption | apply_assumption)) (by omega) (by omega) (by omega) ?_) | ((with_reducible show IO _ _ _ (.tup _) (.int (OfNat.ofNat _)) _); refine IO_ti (by decide) rfl (by decide) ?_) | ((with_reducible show UO _ _ _ .USub (.int _) _); refine UO_neg_i ?_))
        exact WS_nil ⟨rfl, rfl⟩
      · intro hc
        refine WS_cons (WX_if_set (x := Str.ofString "h") (c := Float64.cmp g M == some .eq) (va := Float64.sub (Float64.add 4611686018427387904 (rcF M N r)) (rcF M N b)) (vb := Float64.sub (Float64.add 4616189618054758400 (rcF M N g)) (rcF M N r)) ?_ ?_ ?_ ?_)
        · refine WT_compare ?_
          repeat (first | ((with_reducible show WE _ _ _ _ _ _ (.BinOp _ _ _ _) _); refine WE_binop ?_) | ((with_reducible show WE _ _ _ _ _ _ (.Constant (.float _) _ _) _); refine WE_flt ?_) | ((with_reducible show WE _ _ _ _ _ _ (.Constant (.int _) _ _) _); refine WE_int ?_) | ((with_reducible show WE _ _ _ _ _ _ (.Constant (.bool _) _ _) _); refine WE_bool ?_) | ((with_reducible show WE _ _ _ _ _ _ (.Name _ _) _); first | refine WE_name rfl ?_ | refine WE_name (by assumption) ?_ | refine WE_name (comp_get (by assumption)) ?_) | ((with_reducible show WE _ _ _ _ _ _ (.Tuple _ _ _) _); refine WE_tuple ?_) | ((with_reducible show WE _ _ _ _ _ _ (.List _ _) _); refine WE_list ?_) | ((with_reducible show WE _ _ _ _ _ _ (.Subscript _ (.Slice _ _ none _) _) _); refine WE_cut ?_) | ((with_reducible show WE _ _ _ _ _ _ (.Subscript _ _ _) _); refine WE_item ?_) | ((with_reducible show WE _ _ _ _ _ _ (.UnaryOp _ _ _) _); refine WE_unary ?_) | ((with_reducible show WP _ _ _ _ _ _ (some _) _); refine WP_some ?_) | ((with_reducible show WP _ _ _ _ _ _ none _); refine WP_none ?_) | ((with_reducible show WEs _ _ _ _ _ _ (_ :: _) _); refine WEs_cons ?_) | ((with_reducible show WEs _ _ _ _ _ _ [] _); refine WEs_nil ?_) | ((with_reducible show BO _ _ _ .Mult (.flt _) (.flt _) _); refine BO_mul_ff ?_) | ((with_reducible show BO _ _ _ .Add (.flt _) (.flt _) _); refine BO_add_ff ?_) | ((with_reducible show BO _ _ _ .Sub (.flt _) (.flt _) _); refine BO_sub_ff ?_) | ((with_reducible show BO _ _ _ .Add (.int _) (.int _) _); refine BO_add_ii ?_) | ((with_reducible show BO _ _ _ .Sub (.int _) (.int _) _); refine BO_sub_ii ?_) | ((with_reducible show BO _ _ _ .Mult (.int _) (.int _) _); refine BO_mul_ii (by first | exact mulL (by omega) (by omega) | exact mulR (by omega) (by omega)) ?_) | ((with_reducible show BO _ _ _ .Pow (.int _) (.int _) _); first | refine BO_pow_eq pow40 (by decide) (by decide) ?_ | refine BO_pow_eq pow52 (by decide) (by decide) ?_ | refine BO_pow_eq pow53 (by decide) (by decide) ?_ | refine BO_pow2 (by omega) (by omega) ?_) | ((with_reducible show BO _ _ _ .Mod (.int _) (.int _) _); refine BO_mod_p (by omega) ?_) | ((with_reducible show BO _ _ _ .FloorDiv (.int _) (.int _) _); refine BO_div_p (by omega) (by omega) ?_) | ((with_reducible show BO _ _ _ .Div (.int _) (.int _) _); refine BO_div_s (Rm.handled (by first | assumption | apply_assumption)) (by omega) (by omega) (by omega) ?_) | ((with_reducible show IO _ _ _ (.tup _) (.int (OfNat.ofNat _)) _); refine IO_ti (by decide) rfl (by decide) ?_) | ((with_reducible show UO _ _ _ .USub (.int _) _); refine UO_neg_i ?_))
          exact CO_eq_ff rfl
        · intro hc
          refine WS_cons (WX_assign (.inl rfl) ?_)
          repeat (first | ((with_reducible show WE _ _ _ _ _ _ (.BinOp _ _ _ _) _); refine WE_binop ?_) | ((with_reducible show WE _ _ _ _ _ _ (.Constant (.float _) _ _) _); refine WE_flt ?_) | ((with_reducible show WE _ _ _ _ _ _ (.Constant (.int _) _ _) _); refine WE_int ?_) | ((with_reducible show WE _ _ _ _ _ _ (.Constant (.bool _) _ _) _); refine WE_bool ?_) | ((with_reducible show WE _ _ _ _ _ _ (.Name _ _) _); first | refine WE_name rfl ?_ | refine WE_name (by assumption) ?_ | refine WE_name (comp_get (by assumption)) ?_) | ((with_reducible show WE _ _ _ _ _ _ (.Tuple _ _ _) _); refine WE_tuple ?_) | ((with_reducible show WE _ _ _ _ _ _ (.List _ _) _); refine WE_list ?_) | ((with_reducible show WE _ _ _ _ _ _ (.Subscript _ (.Slice _ _ none _) _) _); refine WE_cut ?_) | ((with_reducible show WE _ _ _ _ _ _ (.Subscript _ _ _) _); refine WE_item ?_) | ((with_reducible show WE _ _ _ _ _ _ (.UnaryOp _ _ _) _); refine WE_unary ?_) | ((with_reducible show WP _ _ _ _ _ _ (some _) _); refine WP_some ?_) | ((with_reducible show WP _ _ _ _ _ _ none _); refine WP_none ?_) | ((with_reducible show WEs _ _ _ _ _ _ (_ :: _) _); refine WEs_cons ?_) | ((with_reducible show WEs _ _ _ _ _ _ [] _); refine WEs_nil ?_) | ((with_reducible show BO _ _ _ .Mult (.flt _) (.flt _) _); refine BO_mul_ff ?_) | ((with_reducible show BO _ _ _ .Add (.flt _) (.flt _) _); refine BO_add_ff ?_) | ((with_reducible show BO _ _ _ .Sub (.flt _) (.flt _) _); refine BO_sub_ff ?_) | ((with_reducible show BO _ _ _ .Add (.int _) (.int _) _); refine BO_add_ii ?_) | ((with_reducible show BO _ _ _ .Sub (.int _) (.int _) _); refine BO_sub_ii ?_) | ((with_reducible show BO _ _ _ .Mult (.int _) (.int _) _); refine BO_mul_ii (by first | exact mulL (by omega) (by omega) | exact mulR (by omega) (by omega)) ?_) | ((with_reducible show BO _ _ _ .Pow (.int _) (.int _) _); first | refine BO_pow_eq pow40 (by decide) (by decide) ?_ | refine BO_pow_eq pow52 (by decide) (by decide) ?_ | refine BO_pow_eq pow53 (by decide) (by decide) ?_ | refine BO_pow2 (by omega) (by omega) ?_) | ((with_reducible show BO _ _ _ .Mod (.int _) (.int _) _); refine BO_mod_p (by omega) ?_) | ((with_reducible show BO _ _ _ .FloorDiv (.int _) (.int _) _); refine BO_div_p (by omega) (by omega) ?_) | ((with_reducible show BO _ _ _ .Div (.int _) (.int _) _); refine BO_div_s (Rm.handled (by first | assumption | apply_assumption)) (by omega) (by omega) (by omega) ?_) | ((with_reducible show IO _ _ _ (.tup _) (.int (OfNat.ofNat _)) _); refine IO_ti (by decide) rfl (by decide) ?_) | ((with_reducible show UO _ _ _ .USub (.int _) _); refine UO_neg_i ?_))
          exact WS_nil ⟨rfl, rfl⟩
        · intro hc
          refine WS_cons (WX_assign (.inl rfl) ?_)
          repeat (first | ((with_reducible show WE _ _ _ _ _ _ (.BinOp _ _ _ _) _); refine WE_binop ?_) | ((with_reducible show WE _ _ _ _ _ _ (.Constant (.float _) _ _) _); refine WE_flt ?_) | ((with_reducible show WE _ _ _ _ _ _ (.Constant (.int _) _ _) _); refine WE_int ?_) | ((with_reducible show WE _ _ _ _ _ _ (.Constant (.bool _) _ _) _); refine WE_bool ?_) | ((with_reducible show WE _ _ _ _ _ _ (.Name _ _) _); first | refine WE_name rfl ?_ | refine WE_name (by assumption) ?_ | refine WE_name (comp_get (by assumption)) ?_) | ((with_reducible show WE _ _ _ _ _ _ (.Tuple _ _ _) _); refine WE_tuple ?_) | ((with_reducible show WE _ _ _ _ _ _ (.List _ _) _); refine WE_list ?_) | ((with_reducible show WE _ _ _ _ _ _ (.Subscript _ (.Slice _ _ none _) _) _); refine WE_cut ?_) | ((with_reducible show WE _ _ _ _ _ _ (.Subscript _ _ _) _); refine WE_item ?_) | ((with_reducible show WE _ _ _ _ _ _ (.UnaryOp _ _ _) _); refine WE_unary ?_) | ((with_reducible show WP _ _ _ _ _ _ (some _) _); refine WP_some ?_) | ((with_reducible show WP _ _ _ _ _ _ none _); refine WP_none ?_) | ((with_reducible show WEs _ _ _ _ _ _ (_ :: _) _); refine WEs_cons ?_) | ((with_reducible show WEs _ _ _ _ _ _ [] _); refine WEs_nil ?_) | ((with_reducible show BO _ _ _ .Mult (.flt _) (.flt _) _); refine BO_mul_ff ?_) | ((with_reducible show BO _ _ _ .Add (.flt _) (.flt _) _); refine BO_add_ff ?_) | ((with_reducible show BO _ _ _ .Sub (.flt _) (.flt _) _); refine BO_sub_ff ?_) | ((with_reducible show BO _ _ _ .Add (.int _) (.int _) _); refine BO_add_ii ?_) | ((with_reducible show BO _ _ _ .Sub (.int _) (.int _) _); refine BO_sub_ii ?_) | ((with_reducible show BO _ _ _ .Mult (.int _) (.int _) _); refine BO_mul_ii (by first | exact mulL (by omega) (by omega) | exact mulR (by omega) (by omega)) ?_) | ((with_reducible show BO _ _ _ .Pow (.int _) (.int _) _); first | refine BO_pow_eq pow40 (by decide) (by decide) ?_ | refine BO_pow_eq pow52 (by decide) (by decide) ?_ | refine BO_pow_eq pow53 (by decide) (by decide) ?_ | refine BO_pow2 (by omega) (by omega) ?_) | ((with_reducible show BO _ _ _ .Mod (.int _) (.int _) _); refine BO_mod_p (by omega) ?_) | ((with_reducible show BO _ _ _ .FloorDiv (.int _) (.int _) _); refine BO_div_p (by omega) (by omega) ?_) | ((with_reducible show BO _ _ _ .Div (.int _) (.int _) _); refine BO_div_s (Rm.handled (by first | assumption | apply_assumption)) (by omega) (by omega) (by omega) ?_) | ((with_reducible show IO _ _ _ (.tup _) (.int (OfNat.ofNat _)) _); refine IO_ti (by decide) rfl (by decide) ?_) | ((with_reducible show UO _ _ _ .USub (.int _) _); refine UO_neg_i ?_))
          exact WS_nil ⟨rfl, rfl⟩
        exact WS_nil ⟨rfl, rfl⟩
      show WS _ _ _ _ _ (Store.set _ _ (.dat (.flt (hue0 M N r g b)))) _ _
      refine WS_cons (WX_assign (.inl rfl) ?_)
      repeat (first | ((with_reducible show WE _ _ _ _ _ _ (.BinOp _ _ _ _) _); refine WE_binop ?_) | ((with_reducible show WE _ _ _ _ _ _ (.Constant (.float _) _ _) _); refine WE_flt ?_) | ((with_reducible show WE _ _ _ _ _ _ (.Constant (.int _) _ _) _); refine WE_int ?_) | ((with_reducible show WE _ _ _ _ _ _ (.Constant (.bool _) _ _) _); refine WE_bool ?_) | ((with_reducible show WE _ _ _ _ _ _ (.Name _ _) _); first | refine WE_name rfl ?_ | refine WE_name (by assumption) ?_ | refine WE_name (comp_get (by assumption)) ?_) | ((with_reducible show WE _ _ _ _ _ _ (.Tuple _ _ _) _); refine WE_tuple ?_) | ((with_reducible show WE _ _ _ _ _ _ (.List _ _) _); refine WE_list ?_) | ((with_reducible show WE _ _ _ _ _ _ (.Subscript _ (.Slice _ _ none _) _) _); refine WE_cut ?_) | ((with_reducible show WE _ _ _ _ _ _ (.Subscript _ _ _) _); refine WE_item ?_) | ((with_reducible show WE _ _ _ _ _ _ (.UnaryOp _ _ _) _); refine WE_unary ?_) | ((with_reducible show WP _ _ _ _ _ _ (some _) _); refine WP_some ?_) | ((with_reducible show WP _ _ _ _ _ _ none _); refine WP_none ?_) | ((with_reducible show WEs _ _ _ _ _ _ (_ :: _) _); refine WEs_cons ?_) | ((with_reducible show WEs _ _ _ _ _ _ [] _); refine WEs_nil ?_) | ((with_reducible show BO _ _ _ .Mult (.flt _) (.flt _) _); refine BO_mul_ff ?_) | ((with_reducible show BO _ _ _ .Add (.flt _) (.flt _) _); refine BO_add_ff ?_) | ((with_reducible show BO _ _ _ .Sub (.flt _) (.flt _) _); refine BO_sub_ff ?_) | ((with_reducible show BO _ _ _ .Add (.int _) (.int _) _); refine BO_add_ii ?_) | ((with_reducible show BO _ _ _ .Sub (.int _) (.int _) _); refine BO_sub_ii ?_) | ((with_reducible show BO _ _ _ .Mult (.int _) (.int _) _); refine BO_mul_ii (by first | exact mulL (by omega) (by omega) | exact mulR (by omega) (by omega)) ?_) | ((with_reducible show BO _ _ _ .Pow (.int _) (.int _) _); first | refine BO_pow_eq pow40 (by decide) (by decide) ?_ | refine BO_pow_eq pow52 (by decide) (by decide) ?_ | refine BO_pow_eq pow53 (by decide) (by decide) ?_ | refine BO_pow2 (by omega) (by omega) ?_) | ((with_reducible show BO _ _ _ .Mod (.int _) (.int _) _); refine BO_mod_p (by omega) ?_) | ((with_reducible show BO _ _ _ .FloorDiv (.int _) (.int _) _); refine BO_div_p (by omega) (by omega) ?_) | ((with_reducible show BO _ _ _ .Div (.int _) (.int _) _); refine BO_div_s (Rm.handled (by first | assumption | apply_assumption)) (by omega) (by omega) (by omega) ?_) | ((with_reducible show IO _ _ _ (.tup _) (.int (OfNat.ofNat _)) _); refine IO_ti (by decide) rfl (by decide) ?_) | ((with_reducible show UO _ _ _ .USub (.int _) _); refine UO_neg_i ?_))
      refine BO_div_ff (by decide +kernel) ?_
      repeat (first | ((with_reducible show WE _ _ _ _ _ _ (.BinOp _ _ _ _) _); refine WE_binop ?_) | ((with_reducible show WE _ _ _ _ _ _ (.Constant (.float _) _ _) _); refine WE_flt ?_) | ((with_reducible show WE _ _ _ _ _ _ (.Constant (.int _) _ _) _); refine WE_int ?_) | ((with_reducible show WE _ _ _ _ _ _ (.Constant (.bool _) _ _) _); refine WE_bool ?_) | ((with_reducible show WE _ _ _ _ _ _ (.Name _ _) _); first | refine WE_name rfl ?_ | refine WE_name (by assumption) ?_ | refine WE_name (comp_get (by assumption)) ?_) | ((with_reducible show WE _ _ _ _ _ _ (.Tuple _ _ _) _); refine WE_tuple ?_) | ((with_reducible show WE _ _ _ _ _ _ (.List _ _) _); refine WE_list ?_) | ((with_reducible show WE _ _ _ _ _ _ (.Subscript _ (.Slice _ _ none _) _) _); refine WE_cut ?_) | ((with_reducible show WE _ _ _ _ _ _ (.Subscript _ _ _) _); refine WE_item ?_) | ((with_reducible show WE _ _ _ _ _ _ (.UnaryOp _ _ _) _); refine WE_unary ?_) | ((with_reducible show WP _ _ _ _ _ _ (some _) _); refine WP_some ?_) | ((with_reducible show WP _ _ _ _ _ _ none _); refine WP_none ?_) | ((with_reducible show WEs _ _ _ _ _ _ (_ :: _) _); refine WEs_cons ?_) | ((with_reducible show WEs _ _ _ _ _ _ [] _); refine WEs_nil ?_) | ((with_reducible show BO _ _ _ .Mult (.flt _) (.flt _) _); refine BO_mul_ff ?_) | ((with_reducible show BO _ _ _ .Add (.flt _) (.flt _) _); refine BO_add_ff ?_) | ((with_reducible show BO _ _ _ .Sub (.flt _) (.flt _) _); refine BO_sub_ff ?_) | ((with_reducible show BO _ _ _ .Add (.int _) (.int _) _); refine BO_add_ii ?_) | ((with_reducible show BO _ _ _ .Sub (.int _) (.int _) _); refine BO_sub_ii ?_) | ((with_reducible show BO _ _ _ .Mult (.int _) (.int _) _); refine BO_mul_ii (by first | exact mulL (by omega) (by omega) | exact mulR (by omega) (by omega)) ?_) | ((with_reducible show BO _ _ _ .Pow (.int _) (.int _) _); first | refine BO_pow_eq pow40 (by decide) (by decide) ?_ | refine BO_pow_eq pow52 (by decide) (by decide) ?_ | refine BO_pow_eq pow53 (by decide) (by decide) ?_ | refine BO_pow2 (by omega) (by omega) ?_) | ((with_reducible show BO _ _ _ .Mod (.int _) (.int _) _); refine BO_mod_p (by omega) ?_) | ((with_reducible show BO _ _ _ .FloorDiv (.int _) (.int _) _); refine BO_div_p (by omega) (by omega) ?_) | ((with_reducible show BO _ _ _ .Div (.int _) (.int _) _); refine BO_div_s (Rm.handled (by first | assumption | apply_assumption)) (by omega) (by omega) (by omega) ?_) | ((with_reducible show IO _ _ _ (.tup _) (.int (OfNat.ofNat _)) _); refine IO_ti (by decide) rfl (by decide) ?_) | ((with_reducible show UO _ _ _ .USub (.int _) _); refine UO_neg_i ?_))
      refine BO_mod_ff (by decide +kernel) ?_
      show WS _ _ _ _ _ (Store.set _ _ (.dat (.flt (hueF M N r g b)))) _ _
      refine WS_cons (WX_return ?_)
      repeat (first | ((with_reducible show WE _ _ _ _ _ _ (.BinOp _ _ _ _) _); refine WE_binop ?_) | ((with_reducible show WE _ _ _ _ _ _ (.Constant (.float _) _ _) _); refine WE_flt ?_) | ((with_reducible show WE _ _ _ _ _ _ (.Constant (.int _) _ _) _); refine WE_int ?_) | ((with_reducible show WE _ _ _ _ _ _ (.Constant (.bool _) _ _) _); refine WE_bool ?_) | ((with_reducible show WE _ _ _ _ _ _ (.Name _ _) _); first | refine WE_name rfl ?_ | refine WE_name (by assumption) ?_ | refine WE_name (comp_get (by assumption)) ?_) | ((with_reducible show WE _ _ _ _ _ _ (.Tuple _ _ _) _); refine WE_tuple ?_) | ((with_reducible show WE _ _ _ _ _ _ (.List _ _) _); refine WE_list ?_) | ((with_reducible show WE _ _ _ _ _ _ (.Subscript _ (.Slice _ _ none _) _) _); refine WE_cut ?_) | ((with_reducible show WE _ _ _ _ _ _ (.Subscript _ _ _) _); refine WE_item ?_) | ((with_reducible show WE _ _ _ _ _ _ (.UnaryOp _ _ _) _); refine WE_unary ?_) | ((with_reducible show WP _ _ _ _ _ _ (some _) _); refine WP_some ?_) | ((with_reducible show WP _ _ _ _ _ _ none _); refine WP_none ?_) | ((with_reducible show WEs _ _ _ _ _ _ (_ :: _) _); refine WEs_cons ?_) | ((with_reducible show WEs _ _ _ _ _ _ [] _); refine WEs_nil ?_) | ((with_reducible show BO _ _ _ .Mult (.flt _) (.flt _) _); refine BO_mul_ff ?_) | ((with_reducible show BO _ _ _ .Add (.flt _) (.flt _) _); refine BO_add_ff ?_) | ((with_reducible show BO _ _ _ .Sub (.flt _) (.flt _) _); refine BO_sub_ff ?_) | ((with_reducible show BO _ _ _ .Add (.int _) (.int _) _); refine BO_add_ii ?_) | ((with_reducible show BO _ _ _ .Sub (.int _) (.int _) _); refine BO_sub_ii ?_) | ((with_reducible show BO _ _ _ .Mult (.int _) (.int _) _); refine BO_mul_ii (by first | exact mulL (by omega) (by omega) | exact mulR (by omega) (by omega)) ?_) | ((with_reducible show BO _ _ _ .Pow (.int _) (.int _) _); first | refine BO_pow_eq pow40 (by decide) (by decide) ?_ | refine BO_pow_eq pow52 (by decide) (by decide) ?_ | refine BO_pow_eq pow53 (by decide) (by decide) ?_ | refine BO_pow2 (by omega) (by omega) ?_) | ((with_reducible show BO _ _ _ .Mod (.int _) (.int _) _); refine BO_mod_p (by omega) ?_) | ((with_reducible show BO _ _ _ .FloorDiv (.int _) (.int _) _); refine BO_div_p (by omega) (by omega) ?_) | ((with_reducible show BO _ _ _ .Div (.int _) (.int _) _); refine BO_div_s (Rm.handled (by first | assumption | apply_assumption)) (by omega) (by omega) (by omega) ?_) | ((with_reducible show IO _ _ _ (.tup _) (.int (OfNat.ofNat _)) _); refine IO_ti (by decide) rfl (by decide) ?_) | ((with_reducible show UO _ _ _ .USub (.int _) _); refine UO_neg_i ?_))
      exact ⟨by simp, rfl⟩
  have toHsv : ∀ A, Rm 1 A → ∀ r g b, HsvOk r g b → WC PySem.Challenge.rw_dm0025_08.row.prog w s₁ A (.ref f4) [.flt r, .flt g, .flt b] (fun d => d = .tup [.flt (toH r g b), .flt (toSV r g b), .flt (toV r g b)]) := by
    intro A hA r g b hok
    refine WC_doc GB hm4 ho4 hd4 hc4 (names := [Str.ofString "r", Str.ofString "g", Str.ofString "b"]) hA.room rfl ?_ ?_ ?_
    · intro vals hl
      obtain ⟨a, b, c, rfl⟩ := len3 hl
      rfl
    · intro L y hy; simp only [List.mem_cons, List.not_mem_nil, or_false] at hy
      rcases hy with rfl | rfl | rfl
      · exact .inl rfl
      · exact .inl rfl
      · exact .inl rfl
    · intro L
      refine WS_cons (WX_assign (.inl rfl) ?_)
      refine WE_call_builtin GB rfl nmax (by with_unfolding_all rfl) ?_
      repeat (first | ((with_reducible show WE _ _ _ _ _ _ (.BinOp _ _ _ _) _); refine WE_binop ?_) | ((with_reducible show WE _ _ _ _ _ _ (.Constant (.float _) _ _) _); refine WE_flt ?_) | ((with_reducible show WE _ _ _ _ _ _ (.Constant (.int _) _ _) _); refine WE_int ?_) | ((with_reducible show WE _ _ _ _ _ _ (.Constant (.bool _) _ _) _); refine WE_bool ?_) | ((with_reducible show WE _ _ _ _ _ _ (.Name _ _) _); first | refine WE_name rfl ?_ | refine WE_name (by assumption) ?_ | refine WE_name (comp_get (by assumption)) ?_) | ((with_reducible show WE _ _ _ _ _ _ (.Tuple _ _ _) _); refine WE_tuple ?_) | ((with_reducible show WE _ _ _ _ _ _ (.List _ _) _); refine WE_list ?_) | ((with_reducible show WE _ _ _ _ _ _ (.Subscript _ (.Slice _ _ none _) _) _); refine WE_cut ?_) | ((with_reducible show WE _ _ _ _ _ _ (.Subscript _ _ _) _); refine WE_item ?_) | ((with_reducible show WE _ _ _ _ _ _ (.UnaryOp _ _ _) _); refine WE_unary ?_) | ((with_reducible show WP _ _ _ _ _ _ (some _) _); refine WP_some ?_) | ((with_reducible show WP _ _ _ _ _ _ none _); refine WP_none ?_) | ((with_reducible show WEs _ _ _ _ _ _ (_ :: _) _); refine WEs_cons ?_) | ((with_reducible show WEs _ _ _ _ _ _ [] _); refine WEs_nil ?_) | ((with_reducible show BO _ _ _ .Mult (.flt _) (.flt _) _); refine BO_mul_ff ?_) | ((with_reducible show BO _ _ _ .Add (.flt _) (.flt _) _); refine BO_add_ff ?_) | ((with_reducible show BO _ _ _ .Sub (.flt _) (.flt _) _); refine BO_sub_ff ?_) | ((with_reducible show BO _ _ _ .Add (.int _) (.int _) _); refine BO_add_ii ?_) | ((with_reducible show BO _ _ _ .Sub (.int _) (.int _) _); refine BO_sub_ii ?_) | ((with_reducible show BO _ _ _ .Mult (.int _) (.int _) _); refine BO_mul_ii (by first | exact mulL (by omega) (by omega) | exact mulR (by omega) (by omega)) ?_) | ((with_reducible show BO _ _ _ .Pow (.int _) (.int _) _); first | refine BO_pow_eq pow40 (by decide) (by decide) ?_ | refine BO_pow_eq pow52 (by decide) (by decide) ?_ | refine BO_pow_eq pow53 (by decide) (by decide) ?_ | refine BO_pow2 (by omega) (by omega) ?_) | ((with_reducible show BO _ _ _ .Mod (.int _) (.int _) _); refine BO_mod_p (by omega) ?_) | ((with_reducible show BO _ _ _ .FloorDiv (.int _) (.int _) _); refine BO_div_p (by omega) (by omega) ?_) | ((with_reducible show BO _ _ _ .Div (.int _) (.int _) _); refine BO_div_s (Rm.handled (by first | assumption | apply_assumption)) (by omega) (by omega) (by omega) ?_) | ((with_reducible show IO _ _ _ (.tup _) (.int (OfNat.ofNat _)) _); refine IO_ti (by decide) rfl (by decide) ?_) | ((with_reducible show UO _ _ _ .USub (.int _) _); refine UO_neg_i ?_))
      refine WC_max_fff (hA.deeper _).handled ?_
      show WS _ _ _ _ _ (Store.set _ _ (.dat (.flt (mx3 r g b)))) _ _
      refine WS_cons (WX_assign (.inl rfl) ?_)
      refine WE_call_builtin GB rfl nmin (by with_unfolding_all rfl) ?_
      repeat (first | ((with_reducible show WE _ _ _ _ _ _ (.BinOp _ _ _ _) _); refine WE_binop ?_) | ((with_reducible show WE _ _ _ _ _ _ (.Constant (.float _) _ _) _); refine WE_flt ?_) | ((with_reducible show WE _ _ _ _ _ _ (.Constant (.int _) _ _) _); refine WE_int ?_) | ((with_reducible show WE _ _ _ _ _ _ (.Constant (.bool _) _ _) _); refine WE_bool ?_) | ((with_reducible show WE _ _ _ _ _ _ (.Name _ _) _); first | refine WE_name rfl ?_ | refine WE_name (by assumption) ?_ | refine WE_name (comp_get (by assumption)) ?_) | ((with_reducible show WE _ _ _ _ _ _ (.Tuple _ _ _) _); refine WE_tuple ?_) | ((with_reducible show WE _ _ _ _ _ _ (.List _ _) _); refine WE_list ?_) | ((with_reducible show WE _ _ _ _ _ _ (.Subscript _ (.Slice _ _ none _) _) _); refine WE_cut ?_) | ((with_reducible show WE _ _ _ _ _ _ (.Subscript _ _ _) _); refine WE_item ?_) | ((with_reducible show WE _ _ _ _ _ _ (.UnaryOp _ _ _) _); refine WE_unary ?_) | ((with_reducible show WP _ _ _ _ _ _ (some _) _); refine WP_some ?_) | ((with_reducible show WP _ _ _ _ _ _ none _); refine WP_none ?_) | ((with_reducible show WEs _ _ _ _ _ _ (_ :: _) _); refine WEs_cons ?_) | ((with_reducible show WEs _ _ _ _ _ _ [] _); refine WEs_nil ?_) | ((with_reducible show BO _ _ _ .Mult (.flt _) (.flt _) _); refine BO_mul_ff ?_) | ((with_reducible show BO _ _ _ .Add (.flt _) (.flt _) _); refine BO_add_ff ?_) | ((with_reducible show BO _ _ _ .Sub (.flt _) (.flt _) _); refine BO_sub_ff ?_) | ((with_reducible show BO _ _ _ .Add (.int _) (.int _) _); refine BO_add_ii ?_) | ((with_reducible show BO _ _ _ .Sub (.int _) (.int _) _); refine BO_sub_ii ?_) | ((with_reducible show BO _ _ _ .Mult (.int _) (.int _) _); refine BO_mul_ii (by first | exact mulL (by omega) (by omega) | exact mulR (by omega) (by omega)) ?_) | ((with_reducible show BO _ _ _ .Pow (.int _) (.int _) _); first | refine BO_pow_eq pow40 (by decide) (by decide) ?_ | refine BO_pow_eq pow52 (by decide) (by decide) ?_ | refine BO_pow_eq pow53 (by decide) (by decide) ?_ | refine BO_pow2 (by omega) (by omega) ?_) | ((with_reducible show BO _ _ _ .Mod (.int _) (.int _) _); refine BO_mod_p (by omega) ?_) | ((with_reducible show BO _ _ _ .FloorDiv (.int _) (.int _) _); refine BO_div_p (by omega) (by omega) ?_) | ((with_reducible show BO _ _ _ .Div (.int _) (.int _) _); refine BO_div_s (Rm.handled (by first | assumption | apply_assumption)) (by omega) (by omega) (by omega) ?_) | ((with_reducible show IO _ _ _ (.tup _) (.int (OfNat.ofNat _)) _); refine IO_ti (by decide) rfl (by decide) ?_) | ((with_reducible show UO _ _ _ .USub (.int _) _); refine UO_neg_i ?_))
      refine WC_min_fff (hA.deeper _).handled ?_
      show WS _ _ _ _ _ (Store.set _ _ (.dat (.flt (mn3 r g b)))) _ _
      unfold HsvOk at hok
      unfold toH toSV toV
      rw [show greyF r g b = (Float64.cmp (mn3 r g b) (mx3 r g b) == some .eq) from rfl] at hok ⊢
      generalize mx3 r g b = M at hok ⊢
      generalize mn3 r g b = N at hok ⊢
      refine WS_cons (WX_assign (.inl rfl) ?_)
      repeat (first | ((with_reducible show WE _ _ _ _ _ _ (.BinOp _ _ _ _) _); refine WE_binop ?_) | ((with_reducible show WE _ _ _ _ _ _ (.Constant (.float _) _ _) _); refine WE_flt ?_) | ((with_reducible show WE _ _ _ _ _ _ (.Constant (.int _) _ _) _); refine WE_int ?_) | ((with_reducible show WE _ _ _ _ _ _ (.Constant (.bool _) _ _) _); refine WE_bool ?_) | ((with_reducible show WE _ _ _ _ _ _ (.Name _ _) _); first | refine WE_name rfl ?_ | refine WE_name (by assumption) ?_ | refine WE_name (comp_get (by assumption)) ?_) | ((with_reducible show WE _ _ _ _ _ _ (.Tuple _ _ _) _); refine WE_tuple ?_) | ((with_reducible show WE _ _ _ _ _ _ (.List _ _) _); refine WE_list ?_) | ((with_reducible show WE _ _ _ _ _ _ (.Subscript _ (.Slice _ _ none _) _) _); refine WE_cut ?_) | ((with_reducible show WE _ _ _ _ _ _ (.Subscript _ _ _) _); refine WE_item ?_) | ((with_reducible show WE _ _ _ _ _ _ (.UnaryOp _ _ _) _); refine WE_unary ?_) | ((with_reducible show WP _ _ _ _ _ _ (some _) _); refine WP_some ?_) | ((with_reducible show WP _ _ _ _ _ _ none _); refine WP_none ?_) | ((with_reducible show WEs _ _ _ _ _ _ (_ :: _) _); refine WEs_cons ?_) | ((with_reducible show WEs _ _ _ _ _ _ [] _); refine WEs_nil ?_) | ((with_reducible show BO _ _ _ .Mult (.flt _) (.flt _) _); refine BO_mul_ff ?_) | ((with_reducible show BO _ _ _ .Add (.flt _) (.flt _) _); refine BO_add_ff ?_) | ((with_reducible show BO _ _ _ .Sub (.flt _) (.flt _) _); refine BO_sub_ff ?_) | ((with_reducible show BO _ _ _ .Add (.int _) (.int _) _); refine BO_add_ii ?_) | ((with_reducible show BO _ _ _ .Sub (.int _) (.int _) _); refine BO_sub_ii ?_) | ((with_reducible show BO _ _ _ .Mult (.int _) (.int _) _); refine BO_mul_ii (by first | exact mulL (by omega) (by omega) | exact mulR (by omega) (by omega)) ?_) | ((with_reducible show BO _ _ _ .Pow (.int _) (.int _) _); first | refine BO_pow_eq pow40 (by decide) (by decide) ?_ | refine BO_pow_eq pow52 (by decide) (by decide) ?_ | refine BO_pow_eq pow53 (by decide) (by decide) ?_ | refine BO_pow2 (by omega) (by omega) ?_) | ((with_reducible show BO _ _ _ .Mod (.int _) (.int _) _); refine BO_mod_p (by omega) ?_) | ((with_reducible show BO _ _ _ .FloorDiv (.int _) (.int _) _); refine BO_div_p (by omega) (by omega) ?_) | ((with_reducible show BO _ _ _ .Div (.int _) (.int _) _); refine BO_div_s (Rm.handled (by first | assumption | apply_assumption)) (by omega) (by omega) (by omega) ?_) | ((with_reducible show IO _ _ _ (.tup _) (.int (OfNat.ofNat _)) _); refine IO_ti (by decide) rfl (by decide) ?_) | ((with_reducible show UO _ _ _ .USub (.int _) _); refine UO_neg_i ?_))
      refine WS_cons (WX_assign (.inl rfl) ?_)
      repeat (first | ((with_reducible show WE _ _ _ _ _ _ (.BinOp _ _ _ _) _); refine WE_binop ?_) | ((with_reducible show WE _ _ _ _ _ _ (.Constant (.float _) _ _) _); refine WE_flt ?_) | ((with_reducible show WE _ _ _ _ _ _ (.Constant (.int _) _ _) _); refine WE_int ?_) | ((with_reducible show WE _ _ _ _ _ _ (.Constant (.bool _) _ _) _); refine WE_bool ?_) | ((with_reducible show WE _ _ _ _ _ _ (.Name _ _) _); first | refine WE_name rfl ?_ | refine WE_name (by assumption) ?_ | refine WE_name (comp_get (by assumption)) ?_) | ((with_reducible show WE _ _ _ _ _ _ (.Tuple _ _ _) _); refine WE_tuple ?_) | ((with_reducible show WE _ _ _ _ _ _ (.List _ _) _); refine WE_list ?_) | ((with_reducible show WE _ _ _ _ _ _ (.Subscript _ (.Slice _ _ none _) _) _); refine WE_cut ?_) | ((with_reducible show WE _ _ _ _ _ _ (.Subscript _ _ _) _); refine WE_item ?_) | ((with_reducible show WE _ _ _ _ _ _ (.UnaryOp _ _ _) _); refine WE_unary ?_) | ((with_reducible show WP _ _ _ _ _ _ (some _) _); refine WP_some ?_) | ((with_reducible show WP _ _ _ _ _ _ none _); refine WP_none ?_) | ((with_reducible show WEs _ _ _ _ _ _ (_ :: _) _); refine WEs_cons ?_) | ((with_reducible show WEs _ _ _ _ _ _ [] _); refine WEs_nil ?_) | ((with_reducible show BO _ _ _ .Mult (.flt _) (.flt _) _); refine BO_mul_ff ?_) | ((with_reducible show BO _ _ _ .Add (.flt _) (.flt _) _); refine BO_add_ff ?_) | ((with_reducible show BO _ _ _ .Sub (.flt _) (.flt _) _); refine BO_sub_ff ?_) | ((with_reducible show BO _ _ _ .Add (.int _) (.int _) _); refine BO_add_ii ?_) | ((with_reducible show BO _ _ _ .Sub (.int _) (.int _) _); refine BO_sub_ii ?_) | ((with_reducible show BO _ _ _ .Mult (.int _) (.int _) _); refine BO_mul_ii (by first | exact mulL (by omega) (by omega) | exact mulR (by omega) (by omega)) ?_) | ((with_reducible show BO _ _ _ .Pow (.int _) (.int _) _); first | refine BO_pow_eq pow40 (by decide) (by decide) ?_ | refine BO_pow_eq pow52 (by decide) (by decide) ?_ | refine BO_pow_eq pow53 (by decide) (by decide) ?_ | refine BO_pow2 (by omega) (by omega) ?_) | ((with_reducible show BO _ _ _ .Mod (.int _) (.int _) _); refine BO_mod_p (by omega) ?_) | ((with_reducible show BO _ _ _ .FloorDiv (.int _) (.int _) _); refine BO_div_p (by omega) (by omega) ?_) | ((with_reducible show BO _ _ _ .Div (.int _) (.int _) _); refine BO_div_s (Rm.handled (by first | assumption | apply_assumption)) (by omega) (by omega) (by omega) ?_) | ((with_reducible show IO _ _ _ (.tup _) (.int (OfNat.ofNat _)) _); refine IO_ti (by decide) rfl (by decide) ?_) | ((with_reducible show UO _ _ _ .USub (.int _) _); refine UO_neg_i ?_))
      refine WS_cons (WX_if (WT_compare ?_))
      repeat (first | ((with_reducible show WE _ _ _ _ _ _ (.BinOp _ _ _ _) _); refine WE_binop ?_) | ((with_reducible show WE _ _ _ _ _ _ (.Constant (.float _) _ _) _); refine WE_flt ?_) | ((with_reducible show WE _ _ _ _ _ _ (.Constant (.int _) _ _) _); refine WE_int ?_) | ((with_reducible show WE _ _ _ _ _ _ (.Constant (.bool _) _ _) _); refine WE_bool ?_) | ((with_reducible show WE _ _ _ _ _ _ (.Name _ _) _); first | refine WE_name rfl ?_ | refine WE_name (by assumption) ?_ | refine WE_name (comp_get (by assumption)) ?_) | ((with_reducible show WE _ _ _ _ _ _ (.Tuple _ _ _) _); refine WE_tuple ?_) | ((with_reducible show WE _ _ _ _ _ _ (.List _ _) _); refine WE_list ?_) | ((with_reducible show WE _ _ _ _ _ _ (.Subscript _ (.Slice _ _ none _) _) _); refine WE_cut ?_) | ((with_reducible show WE _ _ _ _ _ _ (.Subscript _ _ _) _); refine WE_item ?_) | ((with_reducible show WE _ _ _ _ _ _ (.UnaryOp _ _ _) _); refine WE_unary ?_) | ((with_reducible show WP _ _ _ _ _ _ (some _) _); refine WP_some ?_) | ((with_reducible show WP _ _ _ _ _ _ none _); refine WP_none ?_) | ((with_reducible show WEs _ _ _ _ _ _ (_ :: _) _); refine WEs_cons ?_) | ((with_reducible show WEs _ _ _ _ _ _ [] _); refine WEs_nil ?_) | ((with_reducible show BO _ _ _ .Mult (.flt _) (.flt _) _); refine BO_mul_ff ?_) | ((with_reducible show BO _ _ _ .Add (.flt _) (.flt _) _); refine BO_add_ff ?_) | ((with_reducible show BO _ _ _ .Sub (.flt _) (.flt _) _); refine BO_sub_ff ?_) | ((with_reducible show BO _ _ _ .Add (.int _) (.int _) _); refine BO_add_ii ?_) | ((with_reducible show BO _ _ _ .Sub (.int _) (.int _) _); refine BO_sub_ii ?_) | ((with_reducible show BO _ _ _ .Mult (.int _) (.int _) _); refine BO_mul_ii (by first | exact mulL (by omega) (by omega) | exact mulR (by omega) (by omega)) ?_) | ((with_reducible show BO _ _ _ .Pow (.int _) (.int _) _); first | refine BO_pow_eq pow40 (by decide) (by decide) ?_ | refine BO_pow_eq pow52 (by decide) (by decide) ?_ | refine BO_pow_eq pow53 (by decide) (by decide) ?_ | refine BO_pow2 (by omega) (by omega) ?_) | ((with_reducible show BO _ _ _ .Mod (.int _) (.int _) _); refine BO_mod_p (by omega) ?_) | ((with_reducible show BO _ _ _ .FloorDiv (.int _) (.int _) _); refine BO_div_p (by omega) (by omega) ?_) | ((with_reducible show BO _ _ _ .Div (.int _) (.int _) _); refine BO_div_s (Rm.handled (by first | assumption | apply_assumption)) (by omega) (by omega) (by omega) ?_) | ((with_reducible show IO _ _ _ (.tup _) (.int (OfNat.ofNat _)) _); refine IO_ti (by decide) rfl (by decide) ?_) | ((with_reducible show UO _ _ _ .USub (.int _) _); refine UO_neg_i ?_))
      refine CO_eq_ff ?_
      cases h1 : (Float64.cmp N M == some .eq) with
      | true =>
        refine WS_cons (WX_return ?_)
        repeat (first | ((with_reducible show WE _ _ _ _ _ _ (.BinOp _ _ _ _) _); refine WE_binop ?_) | ((with_reducible show WE _ _ _ _ _ _ (.Constant (.float _) _ _) _); refine WE_flt ?_) | ((with_reducible show WE _ _ _ _ _ _ (.Constant (.int _) _ _) _); refine WE_int ?_) | ((with_reducible show WE _ _ _ _ _ _ (.Constant (.bool _) _ _) _); refine WE_bool ?_) | ((with_reducible show WE _ _ _ _ _ _ (.Name _ _) _); first | refine WE_name rfl ?_ | refine WE_name (by assumption) ?_ | refine WE_name (comp_get (by assumption)) ?_) | ((with_reducible show WE _ _ _ _ _ _ (.Tuple _ _ _) _); refine WE_tuple ?_) | ((with_reducible show WE _ _ _ _ _ _ (.List _ _) _); refine WE_list ?_) | ((with_reducible show WE _ _ _ _ _ _ (.Subscript _ (.Slice _ _ none _) _) _); refine WE_cut ?_) | ((with_reducible show WE _ _ _ _ _ _ (.Subscript _ _ _) _); refine WE_item ?_) | ((with_reducible show WE _ _ _ _ _ _ (.UnaryOp _ _ _) _); refine WE_unary ?_) | ((with_reducible show WP _ _ _ _ _ _ (some _) _); refine WP_some ?_) | ((with_reducible show WP _ _ _ _ _ _ none _); refine WP_none ?_) | ((with_reducible show WEs _ _ _ _ _ _ (_ :: _) _); refine WEs_cons ?_) | ((with_reducible show WEs _ _ _ _ _ _ [] _); refine WEs_nil ?_) | ((with_reducible show BO _ _ _ .Mult (.flt _) (.flt _) _); refine BO_mul_ff ?_) | ((with_reducible show BO _ _ _ .Add (.flt _) (.flt _) _); refine BO_add_ff ?_) | ((with_reducible show BO _ _ _ .Sub (.flt _) (.flt _) _); refine BO_sub_ff ?_) | ((with_reducible show BO _ _ _ .Add (.int _) (.int _) _); refine BO_add_ii ?_) | ((with_reducible show BO _ _ _ .Sub (.int _) (.int _) _); refine BO_sub_ii ?_) | ((with_reducible show BO _ _ _ .Mult (.int _) (.int _) _); refine BO_mul_ii (by first | exact mulL (by omega) (by omega) | exact mulR (by omega) (by omega)) ?_) | ((with_reducible show BO _ _ _ .Pow (.int _) (.int _) _); first | refine BO_pow_eq pow40 (by decide) (by decide) ?_ | refine BO_pow_eq pow52 (by decide) (by decide) ?_ | refine BO_pow_eq pow53 (by decide) (by decide) ?_ | refine BO_pow2 (by omega) (by omega) ?_) | ((with_reducible show BO _ _ _ .Mod (.int _) (.int _) _); refine BO_mod_p (by omega) ?_) | ((with_reducible show BO _ _ _ .FloorDiv (.int _) (.int _) _); refine BO_div_p (by omega) (by omega) ?_) | ((with_reducible show BO _ _ _ .Div (.int _) (.int _) _); refine BO_div_s (Rm.handled (by first | assumption | apply_assumption)) (by omega) (by omega) (by omega) ?_) | ((with_reducible show IO _ _ _ (.tup _) (.int (OfNat.ofNat _)) _); refine IO_ti (by decide) rfl (by decide) ?_) | ((with_reducible show UO _ _ _ .USub (.int _) _); refine UO_neg_i ?_))
        exact ⟨by simp, rfl⟩
      | false =>
      obtain ⟨z1, z2⟩ := hok h1
      refine WS_nil ?_
      refine WS_cons (WX_assign (.inl rfl) ?_)
      repeat (first | ((with_reducible show WE _ _ _ _ _ _ (.BinOp _ _ _ _) _); refine WE_binop ?_) | ((with_reducible show WE _ _ _ _ _ _ (.Constant (.float _) _ _) _); refine WE_flt ?_) | ((with_reducible show WE _ _ _ _ _ _ (.Constant (.int _) _ _) _); refine WE_int ?_) | ((with_reducible show WE _ _ _ _ _ _ (.Constant (.bool _) _ _) _); refine WE_bool ?_) | ((with_reducible show WE _ _ _ _ _ _ (.Name _ _) _); first | refine WE_name rfl ?_ | refine WE_name (by assumption) ?_ | refine WE_name (comp_get (by assumption)) ?_) | ((with_reducible show WE _ _ _ _ _ _ (.Tuple _ _ _) _); refine WE_tuple ?_) | ((with_reducible show WE _ _ _ _ _ _ (.List _ _) _); refine WE_list ?_) | ((with_reducible show WE _ _ _ _ _ _ (.Subscript _ (.Slice _ _ none _) _) _); refine WE_cut ?_) | ((with_reducible show WE _ _ _ _ _ _ (.Subscript _ _ _) _); refine WE_item ?_) | ((with_reducible show WE _ _ _ _ _ _ (.UnaryOp _ _ _) _); refine WE_unary ?_) | ((with_reducible show WP _ _ _ _ _ _ (some _) _); refine WP_some ?_) | ((with_reducible show WP _ _ _ _ _ _ none _); refine WP_none ?_) | ((with_reducible show WEs _ _ _ _ _ _ (_ :: _) _); refine WEs_cons ?_) | ((with_reducible show WEs _ _ _ _ _ _ [] _); refine WEs_nil ?_) | ((with_reducible show BO _ _ _ .Mult (.flt _) (.flt _) _); refine BO_mul_ff ?_) | ((with_reducible show BO _ _ _ .Add (.flt _) (.flt _) _); refine BO_add_ff ?_) | ((with_reducible show BO _ _ _ .Sub (.flt _) (.flt _) _); refine BO_sub_ff ?_) | ((with_reducible show BO _ _ _ .Add (.int _) (.int _) _); refine BO_add_ii ?_) | ((with_reducible show BO _ _ _ .Sub (.int _) (.int _) _); refine BO_sub_ii ?_) | ((with_reducible show BO _ _ _ .Mult (.int _) (.int _) _); refine BO_mul_ii (by first | exact mulL (by omega) (by omega) | exact mulR (by omega) (by omega)) ?_) | ((with_reducible show BO _ _ _ .Pow (.int _) (.int _) _); first | refine BO_pow_eq pow40 (by decide) (by decide) ?_ | refine BO_pow_eq pow52 (by decide) (by decide) ?_ | refine BO_pow_eq pow53 (by decide) (by decide) ?_ | refine BO_pow2 (by omega) (by omega) ?_) | ((with_reducible show BO _ _ _ .Mod (.int _) (.int _) _); refine BO_mod_p (by omega) ?_) | ((with_reducible show BO _ _ _ .FloorDiv (.int _) (.int _) _); refine BO_div_p (by omega) (by omega) ?_) | ((with_reducible show BO _ _ _ .Div (.int _) (.int _) _); refine BO_div_s (Rm.handled (by first | assumption | apply_assumption)) (by omega) (by omega) (by omega) ?_) | ((with_reducible show IO _ _ _ (.tup _) (.int (OfNat.ofNat _)) _); refine IO_ti (by decide) rfl (by decide) ?_) | ((with_reducible show UO _ _ _ .USub (.int _) _); refine UO_neg_i ?_))
      refine BO_div_ff z2 ?_
      refine WS_cons (WX_assign (.inl rfl) ?_)
      repeat (first | ((with_reducible show WE _ _ _ _ _ _ (.BinOp _ _ _ _) _); refine WE_binop ?_) | ((with_reducible show WE _ _ _ _ _ _ (.Constant (.float _) _ _) _); refine WE_flt ?_) | ((with_reducible show WE _ _ _ _ _ _ (.Constant (.int _) _ _) _); refine WE_int ?_) | ((with_reducible show WE _ _ _ _ _ _ (.Constant (.bool _) _ _) _); refine WE_bool ?_) | ((with_reducible show WE _ _ _ _ _ _ (.Name _ _) _); first | refine WE_name rfl ?_ | refine WE_name (by assumption) ?_ | refine WE_name (comp_get (by assumption)) ?_) | ((with_reducible show WE _ _ _ _ _ _ (.Tuple _ _ _) _); refine WE_tuple ?_) | ((with_reducible show WE _ _ _ _ _ _ (.List _ _) _); refine WE_list ?_) | ((with_reducible show WE _ _ _ _ _ _ (.Subscript _ (.Slice _ _ none _) _) _); refine WE_cut ?_) | ((with_reducible show WE _ _ _ _ _ _ (.Subscript _ _ _) _); refine WE_item ?_) | ((with_reducible show WE _ _ _ _ _ _ (.UnaryOp _ _ _) _); refine WE_unary ?_) | ((with_reducible show WP _ _ _ _ _ _ (some _) _); refine WP_some ?_) | ((with_reducible show WP _ _ _ _ _ _ none _); refine WP_none ?_) | ((with_reducible show WEs _ _ _ _ _ _ (_ :: _) _); refine WEs_cons ?_) | ((with_reducible show WEs _ _ _ _ _ _ [] _); refine WEs_nil ?_) | ((with_reducible show BO _ _ _ .Mult (.flt _) (.flt _) _); refine BO_mul_ff ?_) | ((with_reducible show BO _ _ _ .Add (.flt _) (.flt _) _); refine BO_add_ff ?_) | ((with_reducible show BO _ _ _ .Sub (.flt _) (.flt _) _); refine BO_sub_ff ?_) | ((with_reducible show BO _ _ _ .Add (.int _) (.int _) _); refine BO_add_ii ?_) | ((with_reducible show BO _ _ _ .Sub (.int _) (.int _) _); refine BO_sub_ii ?_) | ((with_reducible show BO _ _ _ .Mult (.int _) (.int _) _); refine BO_mul_ii (by first | exact mulL (by omega) (by omega) | exact mulR (by omega) (by omega)) ?_) | ((with_reducible show BO _ _ _ .Pow (.int _) (.int _) _); first | refine BO_pow_eq pow40 (by decide) (by decide) ?_ | refine BO_pow_eq pow52 (by decide) (by decide) ?_ | refine BO_pow_eq pow53 (by decide) (by decide) ?_ | refine BO_pow2 (by omega) (by omega) ?_) | ((with_reducible show BO _ _ _ .Mod (.int _) (.int _) _); refine BO_mod_p (by omega) ?_) | ((with_reducible show BO _ _ _ .FloorDiv (.int _) (.int _) _); refine BO_div_p (by omega) (by omega) ?_) | ((with_reducible show BO _ _ _ .Div (.int _) (.int _) _); refine BO_div_s (Rm.handled (by first | assumption | apply_assumption)) (by omega) (by omega) (by omega) ?_) | ((with_reducible show IO _ _ _ (.tup _) (.int (OfNat.ofNat _)) _); refine IO_ti (by decide) rfl (by decide) ?_) | ((with_reducible show UO _ _ _ .USub (.int _) _); refine UO_neg_i ?_))
      refine BO_div_ff z1 ?_
      show WS _ _ _ _ _ (Store.set _ _ (.dat (.flt (rcF M N r)))) _ _
      refine WS_cons (WX_assign (.inl rfl) ?_)
      repeat (first | ((with_reducible show WE _ _ _ _ _ _ (.BinOp _ _ _ _) _); refine WE_binop ?_) | ((with_reducible show WE _ _ _ _ _ _ (.Constant (.float _) _ _) _); refine WE_flt ?_) | ((with_reducible show WE _ _ _ _ _ _ (.Constant (.int _) _ _) _); refine WE_int ?_) | ((with_reducible show WE _ _ _ _ _ _ (.Constant (.bool _) _ _) _); refine WE_bool ?_) | ((with_reducible show WE _ _ _ _ _ _ (.Name _ _) _); first | refine WE_name rfl ?_ | refine WE_name (by assumption) ?_ | refine WE_name (comp_get (by assumption)) ?_) | ((with_reducible show WE _ _ _ _ _ _ (.Tuple _ _ _) _); refine WE_tuple ?_) | ((with_reducible show WE _ _ _ _ _ _ (.List _ _) _); refine WE_list ?_) | ((with_reducible show WE _ _ _ _ _ _ (.Subscript _ (.Slice _ _ none _) _) _); refine WE_cut ?_) | ((with_reducible show WE _ _ _ _ _ _ (.Subscript _ _ _) _); refine WE_item ?_) | ((with_reducible show WE _ _ _ _ _ _ (.UnaryOp _ _ _) _); refine WE_unary ?_) | ((with_reducible show WP _ _ _ _ _ _ (some _) _); refine WP_some ?_) | ((with_reducible show WP _ _ _ _ _ _ none _); refine WP_none ?_) | ((with_reducible show WEs _ _ _ _ _ _ (_ :: _) _); refine WEs_cons ?_) | ((with_reducible show WEs _ _ _ _ _ _ [] _); refine WEs_nil ?_) | ((with_reducible show BO _ _ _ .Mult (.flt _) (.flt _) _); refine BO_mul_ff ?_) | ((with_reducible show BO _ _ _ .Add (.flt _) (.flt _) _); refine BO_add_ff ?_) | ((with_reducible show BO _ _ _ .Sub (.flt _) (.flt _) _); refine BO_sub_ff ?_) | ((with_reducible show BO _ _ _ .Add (.int _) (.int _) _); refine BO_add_ii ?_) | ((with_reducible show BO _ _ _ .Sub (.int _) (.int _) _); refine BO_sub_ii ?_) | ((with_reducible show BO _ _ _ .Mult (.int _) (.int _) _); refine BO_mul_ii (by first | exact mulL (by omega) (by omega) | exact mulR (by omega) (by omega)) ?_) | ((with_reducible show BO _ _ _ .Pow (.int _) (.int _) _); first | refine BO_pow_eq pow40 (by decide) (by decide) ?_ | refine BO_pow_eq pow52 (by decide) (by decide) ?_ | refine BO_pow_eq pow53 (by decide) (by decide) ?_ | refine BO_pow2 (by omega) (by omega) ?_) | ((with_reducible show BO _ _ _ .Mod (.int _) (.int _) _); refine BO_mod_p (by omega) ?_) | ((with_reducible show BO _ _ _ .FloorDiv (.int _) (.int _) _); refine BO_div_p (by omega) (by omega) ?_) | ((with_reducible show BO _ _ _ .Div (.int _) (.int _) _); refine BO_div_s (Rm.handled (by first | assumption | apply_assumption)) (by omega) (by omega) (by omega) ?_) | ((with_reducible show IO _ _ _ (.tup _) (.int (OfNat.ofNat _)) _); refine IO_ti (by decide) rfl (by decide) ?_) | ((with_reducible show UO _ _ _ .USub (.int _) _); refine UO_neg_i ?_))
      refine BO_div_ff z1 ?_
      show WS _ _ _ _ _ (Store.set _ _ (.dat (.flt (rcF M N g)))) _ _
      refine WS_cons (WX_assign (.inl rfl) ?_)
      repeat (first | ((with_reducible show WE _ _ _ _ _ _ (.BinOp _ _ _ _) _); refine WE_binop ?_) | ((with_reducible show WE _ _ _ _ _ _ (.Constant (.float _) _ _) _); refine WE_flt ?_) | ((with_reducible show WE _ _ _ _ _ _ (.Constant (.int _) _ _) _); refine WE_int ?_) | ((with_reducible show WE _ _ _ _ _ _ (.Constant (.bool _) _ _) _); refine WE_bool ?_) | ((with_reducible show WE _ _ _ _ _ _ (.Name _ _) _); first | refine WE_name rfl ?_ | refine WE_name (by assumption) ?_ | refine WE_name (comp_get (by assumption)) ?_) | ((with_reducible show WE _ _ _ _ _ _ (.Tuple _ _ _) _); refine WE_tuple ?_) | ((with_reducible show WE _ _ _ _ _ _ (.List _ _) _); refine WE_list ?_) | ((with_reducible show WE _ _ _ _ _ _ (.Subscript _ (.Slice _ _ none _) _) _); refine WE_cut ?_) | ((with_reducible show WE _ _ _ _ _ _ (.Subscript _ _ _) _); refine WE_item ?_) | ((with_reducible show WE _ _ _ _ _ _ (.UnaryOp _ _ _) _); refine WE_unary ?_) | ((with_reducible show WP _ _ _ _ _ _ (some _) _); refine WP_some ?_) | ((with_reducible show WP _ _ _ _ _ _ none _); refine WP_none ?_) | ((with_reducible show WEs _ _ _ _ _ _ (_ :: _) _); refine WEs_cons ?_) | ((with_reducible show WEs _ _ _ _ _ _ [] _); refine WEs_nil ?_) | ((with_reducible show BO _ _ _ .Mult (.flt _) (.flt _) _); refine BO_mul_ff ?_) | ((with_reducible show BO _ _ _ .Add (.flt _) (.flt _) _); refine BO_add_ff ?_) | ((with_reducible show BO _ _ _ .Sub (.flt _) (.flt _) _); refine BO_sub_ff ?_) | ((with_reducible show BO _ _ _ .Add (.int _) (.int _) _); refine BO_add_ii ?_) | ((with_reducible show BO _ _ _ .Sub (.int _) (.int _) _); refine BO_sub_ii ?_) | ((with_reducible show BO _ _ _ .Mult (.int _) (.int _) _); refine BO_mul_ii (by first | exact mulL (by omega) (by omega) | exact mulR (by omega) (by omega)) ?_) | ((with_reducible show BO _ _ _ .Pow (.int _) (.int _) _); first | refine BO_pow_eq pow40 (by decide) (by decide) ?_ | refine BO_pow_eq pow52 (by decide) (by decide) ?_ | refine BO_pow_eq pow53 (by decide) (by decide) ?_ | refine BO_pow2 (by omega) (by omega) ?_) | ((with_reducible show BO _ _ _ .Mod (.int _) (.int _) _); refine BO_mod_p (by omega) ?_) | ((with_reducible show BO _ _ _ .FloorDiv (.int _) (.int _) _); refine BO_div_p (by omega) (by omega) ?_) | ((with_reducible show BO _ _ _ .Div (.int _) (.int _) _); refine BO_div_s (Rm.handled (by first | assumption | apply_assumption)) (by omega) (by omega) (by omega) ?_) | ((with_reducible show IO _ _ _ (.tup _) (.int (OfNat.ofNat _)) _); refine IO_ti (by decide) rfl (by decide) ?_) | ((with_reducible show UO _ _ _ .USub (.int _) _); refine UO_neg_i ?_))
      refine BO_div_ff z1 ?_
      show WS _ _ _ _ _ (Store.set _ _ (.dat (.flt (rcF M N b)))) _ _
      refine WS_cons (WX_if_set (x := Str.ofString "h") (c := Float64.cmp r M == some .eq) (va := Float64.sub (rcF M N b) (rcF M N g)) (vb := if (Float64.cmp g M == some .eq) = true then Float64.sub (Float64.add 4611686018427387904 (rcF M N r)) (rcF M N b)
  else Float64.sub (Float64.add 4616189618054758400 (rcF M N g)) (rcF M N r)) ?_ ?_ ?_ ?_)
      · refine WT_compare ?_
        repeat (first | ((with_reducible show WE _ _ _ _ _ _ (.BinOp _ _ _ _) _); refine WE_binop ?_) | ((with_reducible show WE _ _ _ _ _ _ (.Constant (.float _) _ _) _); refine WE_flt ?_) | ((with_reducible show WE _ _ _ _ _ _ (.Constant (.int _) _ _) _); refine WE_int ?_) | ((with_reducible show WE _ _ _ _ _ _ (.Constant (.bool _) _ _) _); refine WE_bool ?_) | ((with_reducible show WE _ _ _ _ _ _ (.Name _ _) _); first | refine WE_name rfl ?_ | refine WE_name (by assumption) ?_ | refine WE_name (comp_get (by assumption)) ?_) | ((with_reducible show WE _ _ _ _ _ _ (.Tuple _ _ _) _); refine WE_tuple ?_) | ((with_reducible show WE _ _ _ _ _ _ (.List _ _) _); refine WE_list ?_) | ((with_reducible show WE _ _ _ _ _ _ (.Subscript _ (.Slice _ _ none _) _) _); refine WE_cut ?_) | ((with_reducible show WE _ _ _ _ _ _ (.Subscript _ _ _) _); refine WE_item ?_) | ((with_reducible show WE _ _ _ _ _ _ (.UnaryOp _ _ _) _); refine WE_unary ?_) | ((with_reducible show WP _ _ _ _ _ _ (some _) _); refine WP_some ?_) | ((with_reducible show WP _ _ _ _ _ _ none _); refine WP_none ?_) | ((with_reducible show WEs _ _ _ _ _ _ (_ :: _) _); refine WEs_cons ?_) | ((with_reducible show WEs _ _ _ _ _ _ [] _); refine WEs_nil ?_) | ((with_reducible show BO _ _ _ .Mult (.flt _) (.flt _) _); refine BO_mul_ff ?_) | ((with_reducible show BO _ _ _ .Add (.flt _) (.flt _) _); refine BO_add_ff ?_) | ((with_reducible show BO _ _ _ .Sub (.flt _) (.flt _) _); refine BO_sub_ff ?_) | ((with_reducible show BO _ _ _ .Add (.int _) (.int _) _); refine BO_add_ii ?_) | ((with_reducible show BO _ _ _ .Sub (.int _) (.int _) _); refine BO_sub_ii ?_) | ((with_reducible show BO _ _ _ .Mult (.int _) (.int _) _); refine BO_mul_ii (by first | exact mulL (by omega) (by omega) | exact mulR (by omega) (by omega)) ?_) | ((with_reducible show BO _ _ _ .Pow (.int _) (.int _) _); first | refine BO_pow_eq pow40 (by decide) (by decide) ?_ | refine BO_pow_eq pow52 (by decide) (by decide) ?_ | refine BO_pow_eq pow53 (by decide) (by decide) ?_ | refine BO_pow2 (by omega) (by omega) ?_) | ((with_reducible show BO _ _ _ .Mod (.int _) (.int _) _); refine BO_mod_p (by omega) ?_) | ((with_reducible show BO _ _ _ .FloorDiv (.int _) (.int _) _); refine BO_div_p (by omega) (by omega) ?_) | ((with_reducible show BO _ _ _ .Div (.int _) (.int _) _); refine BO_div_s (Rm.handled (by first | assumption | apply_assumption)) (by omega) (by omega) (by omega) ?_) | ((with_reducible show IO _ _ _ (.tup _) (.int (OfNat.ofNat _)) _); refine IO_ti (by decide) rfl (by decide) ?_) | ((with_reducible show UO _ _ _ .USub (.int _) _); refine UO_neg_i ?_))
        exact CO_eq_ff rfl
      · intro hc
        refine WS_cons (WX_assign (.inl rfl) ?_)
        repeat (first | ((with_reducible show WE _ _ _ _ _ _ (.BinOp _ _ _ _) _); refine WE_binop ?_) | ((with_reducible show WE _ _ _ _ _ _ (.Constant (.float _) _ _) _); refine WE_flt ?_) | ((with_reducible show WE _ _ _ _ _ _ (.Constant (.int _) _ _) _); refine WE_int ?_) | ((with_reducible show WE _ _ _ _ _ _ (.Constant (.bool _) _ _) _); refine WE_bool ?_) | ((with_reducible show WE _ _ _ _ _ _ (.Name _ _) _); first | refine WE_name rfl ?_ | refine WE_name (by assumption) ?_ | refine WE_name (comp_get (by assumption)) ?_) | ((with_reducible show WE _ _ _ _ _ _ (.Tuple _ _ _) _); refine WE_tuple ?_) | ((with_reducible show WE _ _ _ _ _ _ (.List _ _) _); refine WE_list ?_) | ((with_reducible show WE _ _ _ _ _ _ (.Subscript _ (.Slice _ _ none _) _) _); refine WE_cut ?_) | ((with_reducible show WE _ _ _ _ _ _ (.Subscript _ _ _) _); refine WE_item ?_) | ((with_reducible show WE _ _ _ _ _ _ (.UnaryOp _ _ _) _); refine WE_unary ?_) | ((with_reducible show WP _ _ _ _ _ _ (some _) _); refine WP_some ?_) | ((with_reducible show WP _ _ _ _ _ _ none _); refine WP_none ?_) | ((with_reducible show WEs _ _ _ _ _ _ (_ :: _) _); refine WEs_cons ?_) | ((with_reducible show WEs _ _ _ _ _ _ [] _); refine WEs_nil ?_) | ((with_reducible show BO _ _ _ .Mult (.flt _) (.flt _) _); refine BO_mul_ff ?_) | ((with_reducible show BO _ _ _ .Add (.flt _) (.flt _) _); refine BO_add_ff ?_) | ((with_reducible show BO _ _ _ .Sub (.flt _) (.flt _) _); refine BO_sub_ff ?_) | ((with_reducible show BO _ _ _ .Add (.int _) (.int _) _); refine BO_add_ii ?_) | ((with_reducible show BO _ _ _ .Sub (.int _) (.int _) _); refine BO_sub_ii ?_) | ((with_reducible show BO _ _ _ .Mult (.int _) (.int _) _); refine BO_mul_ii (by first | exact mulL (by omega) (by omega) | exact mulR (by omega) (by omega)) ?_) | ((with_reducible show BO _ _ _ .Pow (.int _) (.int _) _); first | refine BO_pow_eq pow40 (by decide) (by decide) ?_ | refine BO_pow_eq pow52 (by decide) (by decide) ?_ | refine BO_pow_eq pow53 (by decide) (by decide) ?_ | refine BO_pow2 (by omega) (by omega) ?_) | ((with_reducible show BO _ _ _ .Mod (.int _) (.int _) _); refine BO_mod_p (by omega) ?_) | ((with_reducible show BO _ _ _ .FloorDiv (.int _) (.int _) _); refine BO_div_p (by omega) (by omega) ?_) | ((with_reducible show BO _ _ _ .Div (.int _) (.int _) _); refine BO_div_s (Rm.handled (by first | assumption | apply_assumption)) (by omega) (by omega) (by omega) ?_) | ((with_reducible show IO _ _ _ (.tup _) (.int (OfNat.ofNat _)) _); refine IO_ti (by decide) rfl (by decide) ?_) | ((with_reducible show UO _ _ _ .USub (.int _) _); refine UO_neg_i ?_))
        exact WS_nil ⟨rfl, rfl⟩
      · intro hc
        refine WS_cons (WX_if_set (x := Str.ofString "h") (c := Float64.cmp g M == some .eq) (va := Float64.sub (Float64.add 4611686018427387904 (rcF M N r)) (rcF M N b)) (vb := Float64.sub (Float64.add 4616189618054758400 (rcF M N g)) (rcF M N r)) ?_ ?_ ?_ ?_)
        · refine WT_compare ?_
          repeat (first | ((with_reducible show WE _ _ _ _ _ _ (.BinOp _ _ _ _) _); refine WE_binop ?_) | ((with_reducible show WE _ _ _ _ _ _ (.Constant (.float _) _ _) _); refine WE_flt ?_) | ((with_reducible show WE _ _ _ _ _ _ (.Constant (.int _) _ _) _); refine WE_int ?_) | ((with_reducible show WE _ _ _ _ _ _ (.Constant (.bool _) _ _) _); refine WE_bool ?_) | ((with_reducible show WE _ _ _ _ _ _ (.Name _ _) _); first | refine WE_name rfl ?_ | refine WE_name (by assumption) ?_ | refine WE_name (comp_get (by assumption)) ?_) | ((with_reducible show WE _ _ _ _ _ _ (.Tuple _ _ _) _); refine WE_tuple ?_) | ((with_reducible show WE _ _ _ _ _ _ (.List _ _) _); refine WE_list ?_) | ((with_reducible show WE _ _ _ _ _ _ (.Subscript _ (.Slice _ _ none _) _) _); refine WE_cut ?_) | ((with_reducible show WE _ _ _ _ _ _ (.Subscript _ _ _) _); refine WE_item ?_) | ((with_reducible show WE _ _ _ _ _ _ (.UnaryOp _ _ _) _); refine WE_unary ?_) | ((with_reducible show WP _ _ _ _ _ _ (some _) _); refine WP_some ?_) | ((with_reducible show WP _ _ _ _ _ _ none _); refine WP_none ?_) | ((with_reducible show WEs _ _ _ _ _ _ (_ :: _) _); refine WEs_cons ?_) | ((with_reducible show WEs _ _ _ _ _ _ [] _); refine WEs_nil ?_) | ((with_reducible show BO _ _ _ .Mult (.flt _) (.flt _) _); refine BO_mul_ff ?_) | ((with_reducible show BO _ _ _ .Add (.flt _) (.flt _) _); refine BO_add_ff ?_) | ((with_reducible show BO _ _ _ .Sub (.flt _) (.flt _) _); refine BO_sub_ff ?_) | ((with_reducible show BO _ _ _ .Add (.int _) (.int _) _); refine BO_add_ii ?_) | ((with_reducible show BO _ _ _ .Sub (.int _) (.int _) _); refine BO_sub_ii ?_) | ((with_reducible show BO _ _ _ .Mult (.int _) (.int _) _); refine BO_mul_ii (by first | exact mulL (by omega) (by omega) | exact mulR (by omega) (by omega)) ?_) | ((with_reducible show BO _ _ _ .Pow (.int _) (.int _) _); first | refine BO_pow_eq pow40 (by decide) (by decide) ?_ | refine BO_pow_eq pow52 (by decide) (by decide) ?_ | refine BO_pow_eq pow53 (by decide) (by decide) ?_ | refine BO_pow2 (by omega) (by omega) ?_) | ((with_reducible show BO _ _ _ .Mod (.int _) (.int _) _); refine BO_mod_p (by omega) ?_) | ((with_reducible show BO _ _ _ .FloorDiv (.int _) (.int _) _); refine BO_div_p (by omega) (by omega) ?_) | ((with_reducible show BO _ _ _ .Div (.int _) (.int _) _); refine BO_div_s (Rm.handled (by first | assumption | apply_assumption)) (by omega) (by omega) (by omega) ?_) | ((with_reducible show IO _ _ _ (.tup _) (.int (OfNat.ofNat _)) _); refine IO_ti (by decide) rfl (by decide) ?_) | ((with_reducible show UO _ _ _ .USub (.int _) _); refine UO_neg_i ?_))
          exact CO_eq_ff rfl
        · intro hc
          refine WS_cons (WX_assign (.inl rfl) ?_)
          repeat (first | ((with_reducible show WE _ _ _ _ _ _ (.BinOp _ _ _ _) _); refine WE_binop ?_) | ((with_reducible show WE _ _ _ _ _ _ (.Constant (.float _) _ _) _); refine WE_flt ?_) | ((with_reducible show WE _ _ _ _ _ _ (.Constant (.int _) _ _) _); refine WE_int ?_) | ((with_reducible show WE _ _ _ _ _ _ (.Constant (.bool _) _ _) _); refine WE_bool ?_) | ((with_reducible show WE _ _ _ _ _ _ (.Name _ _) _); first | refine WE_name rfl ?_ | refine WE_name (by assumption) ?_ | refine WE_name (comp_get (by assumption)) ?_) | ((with_reducible show WE _ _ _ _ _ _ (.Tuple _ _ _) _); refine WE_tuple ?_) | ((with_reducible show WE _ _ _ _ _ _ (.List _ _) _); refine WE_list ?_) | ((with_reducible show WE _ _ _ _ _ _ (.Subscript _ (.Slice _ _ none _) _) _); refine WE_cut ?_) | ((with_reducible show WE _ _ _ _ _ _ (.Subscript _ _ _) _); refine WE_item ?_) | ((with_reducible show WE _ _ _ _ _ _ (.UnaryOp _ _ _) _); refine WE_unary ?_) | ((with_reducible show WP _ _ _ _ _ _ (some _) _); refine WP_some ?_) | ((with_reducible show WP _ _ _ _ _ _ none _); refine WP_none ?_) | ((with_reducible show WEs _ _ _ _ _ _ (_ :: _) _); refine WEs_cons ?_) | ((with_reducible show WEs _ _ _ _ _ _ [] _); refine WEs_nil ?_) | ((with_reducible show BO _ _ _ .Mult (.flt _) (.flt _) _); refine BO_mul_ff ?_) | ((with_reducible show BO _ _ _ .Add (.flt _) (.flt _) _); refine BO_add_ff ?_) | ((with_reducible show BO _ _ _ .Sub (.flt _) (.flt _) _); refine BO_sub_ff ?_) | ((with_reducible show BO _ _ _ .Add (.int _) (.int _) _); refine BO_add_ii ?_) | ((with_reducible show BO _ _ _ .Sub (.int _) (.int _) _); refine BO_sub_ii ?_) | ((with_reducible show BO _ _ _ .Mult (.int _) (.int _) _); refine BO_mul_ii (by first | exact mulL (by omega) (by omega) | exact mulR (by omega) (by omega)) ?_) | ((with_reducible show BO _ _ _ .Pow (.int _) (.int _) _); first | refine BO_pow_eq pow40 (by decide) (by decide) ?_ | refine BO_pow_eq pow52 (by decide) (by decide) ?_ | refine BO_pow_eq pow53 (by decide) (by decide) ?_ | refine BO_pow2 (by omega) (by omega) ?_) | ((with_reducible show BO _ _ _ .Mod (.int _) (.int _) _); refine BO_mod_p (by omega) ?_) | ((with_reducible show BO _ _ _ .FloorDiv (.int _) (.int _) _); refine BO_div_p (by omega) (by omega) ?_) | ((with_reducible show BO _ _ _ .Div (.int _) (.int _) _); refine BO_div_s (Rm.handled (by first | assumption | apply_assumption)) (by omega) (by omega) (by omega) ?_) | ((with_reducible show IO _ _ _ (.tup _) (.int (OfNat.ofNat _)) _); refine IO_ti (by decide) rfl (by decide) ?_) | ((with_reducible show UO _ _ _ .USub (.int _) _); refine UO_neg_i ?_))
          exact WS_nil ⟨rfl, rfl⟩
        · intro hc
          refine WS_cons (WX_assign (.inl rfl) ?_)
          repeat (first | ((with_reducible show WE _ _ _ _ _ _ (.BinOp _ _ _ _) _); refine WE_binop ?_) | ((with_reducible show WE _ _ _ _ _ _ (.Constant (.float _) _ _) _); refine WE_flt ?_) | ((with_reducible show WE _ _ _ _ _ _ (.Constant (.int _) _ _) _); refine WE_int ?_) | ((with_reducible show WE _ _ _ _ _ _ (.Constant (.bool _) _ _) _); refine WE_bool ?_) | ((with_reducible show WE _ _ _ _ _ _ (.Name _ _) _); first | refine WE_name rfl ?_ | refine WE_name (by assumption) ?_ | refine WE_name (comp_get (by assumption)) ?_) | ((with_reducible show WE _ _ _ _ _ _ (.Tuple _ _ _) _); refine WE_tuple ?_) | ((with_reducible show WE _ _ _ _ _ _ (.List _ _) _); refine WE_list ?_) | ((with_reducible show WE _ _ _ _ _ _ (.Subscript _ (.Slice _ _ none _) _) _); refine WE_cut ?_) | ((with_reducible show WE _ _ _ _ _ _ (.Subscript _ _ _) _); refine WE_item ?_) | ((with_reducible show WE _ _ _ _ _ _ (.UnaryOp _ _ _) _); refine WE_unary ?_) | ((with_reducible show WP _ _ _ _ _ _ (some _) _); refine WP_some ?_) | ((with_reducible show WP _ _ _ _ _ _ none _); refine WP_none ?_) | ((with_reducible show WEs _ _ _ _ _ _ (_ :: _) _); refine WEs_cons ?_) | ((with_reducible show WEs _ _ _ _ _ _ [] _); refine WEs_nil ?_) | ((with_reducible show BO _ _ _ .Mult (.flt _) (.flt _) _); refine BO_mul_ff ?_) | ((with_reducible show BO _ _ _ .Add (.flt _) (.flt _) _); refine BO_add_ff ?_) | ((with_reducible show BO _ _ _ .Sub (.flt _) (.flt _) _); refine BO_sub_ff ?_) | ((with_reducible show BO _ _ _ .Add (.int _) (.int _) _); refine BO_add_ii ?_) | ((with_reducible show BO _ _ _ .Sub (.int _) (.int _) _); refine BO_sub_ii ?_) | ((with_reducible show BO _ _ _ .Mult (.int _) (.int _) _); refine BO_mul_ii (by first | exact mulL (by omega) (by omega) | exact mulR (by omega) (by omega)) ?_) | ((with_reducible show BO _ _ _ .Pow (.int _) (.int _) _); first | refine BO_pow_eq pow40 (by decide) (by decide) ?_ | refine BO_pow_eq pow52 (by decide) (by decide) ?_ | refine BO_pow_eq pow53 (by decide) (by decide) ?_ | refine BO_pow2 (by omega) (by omega) ?_) | ((with_reducible show BO _ _ _ .Mod (.int _) (.int _) _); refine BO_mod_p (by omega) ?_) | ((with_reducible show BO _ _ _ .FloorDiv (.int _) (.int _) _); refine BO_div_p (by omega) (by omega) ?_) | ((with_reducible show BO _ _ _ .Div (.int _) (.int _) _); refine BO_div_s (Rm.handled (by first | assumption | apply_assumption)) (by omega) (by omega) (by omega) ?_) | ((with_reducible show IO _ _ _ (.tup _) (.int (OfNat.ofNat _)) _); refine IO_ti (by decide) rfl (by decide) ?_) | ((with_reducible show UO _ _ _ .USub (.int _) _); refine UO_neg_i ?_))
          exact WS_nil ⟨rfl, rfl⟩
        exact WS_nil ⟨rfl, rfl⟩
      show WS _ _ _ _ _ (Store.set _ _ (.dat (.flt (hue0 M N r g b)))) _ _
      refine WS_cons (WX_assign (.inl rfl) ?_)
      repeat (first | ((with_reducible show WE _ _ _ _ _ _ (.BinOp _ _ _ _) _); refine WE_binop ?_) | ((with_reducible show WE _ _ _ _ _ _ (.Constant (.float _) _ _) _); refine WE_flt ?_) | ((with_reducible show WE _ _ _ _ _ _ (.Constant (.int _) _ _) _); refine WE_int ?_) | ((with_reducible show WE _ _ _ _ _ _ (.Constant (.bool _) _ _) _); refine WE_bool ?_) | ((with_reducible show WE _ _ _ _ _ _ (.Name _ _) _); first | refine WE_name rfl ?_ | refine WE_name (by assumption) ?_ | refine WE_name (comp_get (by assumption)) ?_) | ((with_reducible show WE _ _ _ _ _ _ (.Tuple _ _ _) _); refine WE_tuple ?_) | ((with_reducible show WE _ _ _ _ _ _ (.List _ _) _); refine WE_list ?_) | ((with_reducible show WE _ _ _ _ _ _ (.Subscript _ (.Slice _ _ none _) _) _); refine WE_cut ?_) | ((with_reducible show WE _ _ _ _ _ _ (.Subscript _ _ _) _); refine WE_item ?_) | ((with_reducible show WE _ _ _ _ _ _ (.UnaryOp _ _ _) _); refine WE_unary ?_) | ((with_reducible show WP _ _ _ _ _ _ (some _) _); refine WP_some ?_) | ((with_reducible show WP _ _ _ _ _ _ none _); refine WP_none ?_) | ((with_reducible show WEs _ _ _ _ _ _ (_ :: _) _); refine WEs_cons ?_) | ((with_reducible show WEs _ _ _ _ _ _ [] _); refine WEs_nil ?_) | ((with_reducible show BO _ _ _ .Mult (.flt _) (.flt _) _); refine BO_mul_ff ?_) | ((with_reducible show BO _ _ _ .Add (.flt _) (.flt _) _); refine BO_add_ff ?_) | ((with_reducible show BO _ _ _ .Sub (.flt _) (.flt _) _); refine BO_sub_ff ?_) | ((with_reducible show BO _ _ _ .Add (.int _) (.int _) _); refine BO_add_ii ?_) | ((with_reducible show BO _ _ _ .Sub (.int _) (.int _) _); refine BO_sub_ii ?_) | ((with_reducible show BO _ _ _ .Mult (.int _) (.int _) _); refine BO_mul_ii (by first | exact mulL (by omega) (by omega) | exact mulR (by omega) (by omega)) ?_) | ((with_reducible show BO _ _ _ .Pow (.int _) (.int _) _); first | refine BO_pow_eq pow40 (by decide) (by decide) ?_ | refine BO_pow_eq pow52 (by decide) (by decide) ?_ | refine BO_pow_eq pow53 (by decide) (by decide) ?_ | refine BO_pow2 (by omega) (by omega) ?_) | ((with_reducible show BO _ _ _ .Mod (.int _) (.int _) _); refine BO_mod_p (by omega) ?_) | ((with_reducible show BO _ _ _ .FloorDiv (.int _) (.int _) _); refine BO_div_p (by omega) (by omega) ?_) | ((with_reducible show BO _ _ _ .Div (.int _) (.int _) _); refine BO_div_s (Rm.handled (by first | assumption | apply_assumption)) (by omega) (by omega) (by omega) ?_) | ((with_reducible show IO _ _ _ (.tup _) (.int (OfNat.ofNat _)) _); refine IO_ti (by decide) rfl (by decide) ?_) | ((with_reducible show UO _ _ _ .USub (.int _) _); refine UO_neg_i ?_))
      refine BO_div_ff (by decide +kernel) ?_
      repeat (first | ((with_reducible show WE _ _ _ _ _ _ (.BinOp _ _ _ _) _); refine WE_binop ?_) | ((with_reducible show WE _ _ _ _ _ _ (.Constant (.float _) _ _) _); refine WE_flt ?_) | ((with_reducible show WE _ _ _ _ _ _ (.Constant (.int _) _ _) _); refine WE_int ?_) | ((with_reducible show WE _ _ _ _ _ _ (.Constant (.bool _) _ _) _); refine WE_bool ?_) | ((with_reducible show WE _ _ _ _ _ _ (.Name _ _) _); first | refine WE_name rfl ?_ | refine WE_name (by assumption) ?_ | refine WE_name (comp_get (by assumption)) ?_) | ((with_reducible show WE _ _ _ _ _ _ (.Tuple _ _ _) _); refine WE_tuple ?_) | ((with_reducible show WE _ _ _ _ _ _ (.List _ _) _); refine WE_list ?_) | ((with_reducible show WE _ _ _ _ _ _ (.Subscript _ (.Slice _ _ none _) _) _); refine WE_cut ?_) | ((with_reducible show WE _ _ _ _ _ _ (.Subscript _ _ _) _); refine WE_item ?_) | ((with_reducible show WE _ _ _ _ _ _ (.UnaryOp _ _ _) _); refine WE_unary ?_) | ((with_reducible show WP _ _ _ _ _ _ (some _) _); refine WP_some ?_) | ((with_reducible show WP _ _ _ _ _ _ none _); refine WP_none ?_) | ((with_reducible show WEs _ _ _ _ _ _ (_ :: _) _); refine WEs_cons ?_) | ((with_reducible show WEs _ _ _ _ _ _ [] _); refine WEs_nil ?_) | ((with_reducible show BO _ _ _ .Mult (.flt _) (.flt _) _); refine BO_mul_ff ?_) | ((with_reducible show BO _ _ _ .Add (.flt _) (.flt _) _); refine BO_add_ff ?_) | ((with_reducible show BO _ _ _ .Sub (.flt _) (.flt _) _); refine BO_sub_ff ?_) | ((with_reducible show BO _ _ _ .Add (.int _) (.int _) _); refine BO_add_ii ?_) | ((with_reducible show BO _ _ _ .Sub (.int _) (.int _) _); refine BO_sub_ii ?_) | ((with_reducible show BO _ _ _ .Mult (.int _) (.int _) _); refine BO_mul_ii (by first | exact mulL (by omega) (by omega) | exact mulR (by omega) (by omega)) ?_) | ((with_reducible show BO _ _ _ .Pow (.int _) (.int _) _); first | refine BO_pow_eq pow40 (by decide) (by decide) ?_ | refine BO_pow_eq pow52 (by decide) (by decide) ?_ | refine BO_pow_eq pow53 (by decide) (by decide) ?_ | refine BO_pow2 (by omega) (by omega) ?_) | ((with_reducible show BO _ _ _ .Mod (.int _) (.int _) _); refine BO_mod_p (by omega) ?_) | ((with_reducible show BO _ _ _ .FloorDiv (.int _) (.int _) _); refine BO_div_p (by omega) (by omega) ?_) | ((with_reducible show BO _ _ _ .Div (.int _) (.int _) _); refine BO_div_s (Rm.handled (by first | assumption | apply_assumption)) (by omega) (by omega) (by omega) ?_) | ((with_reducible show IO _ _ _ (.tup _) (.int (OfNat.ofNat _)) _); refine IO_ti (by decide) rfl (by decide) ?_) | ((with_reducible show UO _ _ _ .USub (.int _) _); refine UO_neg_i ?_))
      refine BO_mod_ff (by decide +kernel) ?_
      show WS _ _ _ _ _ (Store.set _ _ (.dat (.flt (hueF M N r g b)))) _ _
      refine WS_cons (WX_return ?_)
      repeat (first | ((with_reducible show WE _ _ _ _ _ _ (.BinOp _ _ _ _) _); refine WE_binop ?_) | ((with_reducible show WE _ _ _ _ _ _ (.Constant (.float _) _ _) _); refine WE_flt ?_) | ((with_reducible show WE _ _ _ _ _ _ (.Constant (.int _) _ _) _); refine WE_int ?_) | ((with_reducible show WE _ _ _ _ _ _ (.Constant (.bool _) _ _) _); refine WE_bool ?_) | ((with_reducible show WE _ _ _ _ _ _ (.Name _ _) _); first | refine WE_name rfl ?_ | refine WE_name (by assumption) ?_ | refine WE_name (comp_get (by assumption)) ?_) | ((with_reducible show WE _ _ _ _ _ _ (.Tuple _ _ _) _); refine WE_tuple ?_) | ((with_reducible show WE _ _ _ _ _ _ (.List _ _) _); refine WE_list ?_) | ((with_reducible show WE _ _ _ _ _ _ (.Subscript _ (.Slice _ _ none _) _) _); refine WE_cut ?_) | ((with_reducible show WE _ _ _ _ _ _ (.Subscript _ _ _) _); refine WE_item ?_) | ((with_reducible show WE _ _ _ _ _ _ (.UnaryOp _ _ _) _); refine WE_unary ?_) | ((with_reducible show WP _ _ _ _ _ _ (some _) _); refine WP_some ?_) | ((with_reducible show WP _ _ _ _ _ _ none _); refine WP_none ?_) | ((with_reducible show WEs _ _ _ _ _ _ (_ :: _) _); refine WEs_cons ?_) | ((with_reducible show WEs _ _ _ _ _ _ [] _); refine WEs_nil ?_) | ((with_reducible show BO _ _ _ .Mult (.flt _) (.flt _) _); refine BO_mul_ff ?_) | ((with_reducible show BO _ _ _ .Add (.flt _) (.flt _) _); refine BO_add_ff ?_) | ((with_reducible show BO _ _ _ .Sub (.flt _) (.flt _) _); refine BO_sub_ff ?_) | ((with_reducible show BO _ _ _ .Add (.int _) (.int _) _); refine BO_add_ii ?_) | ((with_reducible show BO _ _ _ .Sub (.int _) (.int _) _); refine BO_sub_ii ?_) | ((with_reducible show BO _ _ _ .Mult (.int _) (.int _) _); refine BO_mul_ii (by first | exact mulL (by omega) (by omega) | exact mulR (by omega) (by omega)) ?_) | ((with_reducible show BO _ _ _ .Pow (.int _) (.int _) _); first | refine BO_pow_eq pow40 (by decide) (by decide) ?_ | refine BO_pow_eq pow52 (by decide) (by decide) ?_ | refine BO_pow_eq pow53 (by decide) (by decide) ?_ | refine BO_pow2 (by omega) (by omega) ?_) | ((with_reducible show BO _ _ _ .Mod (.int _) (.int _) _); refine BO_mod_p (by omega) ?_) | ((with_reducible show BO _ _ _ .FloorDiv (.int _) (.int _) _); refine BO_div_p (by omega) (by omega) ?_) | ((with_reducible show BO _ _ _ .Div (.int _) (.int _) _); refine BO_div_s (Rm.handled (by first | assumption | apply_assumption)) (by omega) (by omega) (by omega) ?_) | ((with_reducible show IO _ _ _ (.tup _) (.int (OfNat.ofNat _)) _); refine IO_ti (by decide) rfl (by decide) ?_) | ((with_reducible show UO _ _ _ .USub (.int _) _); refine UO_neg_i ?_))
      exact ⟨by simp, rfl⟩
  have lparts : ∀ A, Rm 1 A → ∀ (hue l s n m k : Int), (0 < n ∧ n ≤ 274877906944) → (0 < m ∧ m ≤ 274877906944) → (0 < k ∧ k ≤ 274877906944) → (0 ≤ l ∧ l ≤ k) → (0 ≤ s ∧ s ≤ m) → WC PySem.Challenge.rw_dm0025_08.row.prog w s₁ A (.ref f5) [.int hue, .int l, .int s, .int n, .int m, .int k] (fun d => d = .lst [.int (partI n m k hue l s 0), .int (partI n m k hue l s (2 * n)), .int (partI n m k hue l s (4 * n))]) := by
    intro A hA hue l s n m k hn hm hk hl hs
    refine WC_doc GB hm5 ho5 hd5 hc5 (names := [Str.ofString "hue", Str.ofString "l", Str.ofString "s", Str.ofString "n", Str.ofString "m", Str.ofString "k"]) hA.room rfl ?_ ?_ ?_
    · intro vals hl
      obtain ⟨a, b, c, d, e, f, rfl⟩ := len6 hl
      rfl
    · intro L y hy; simp only [List.mem_cons, List.not_mem_nil, or_false] at hy
      rcases hy with rfl | rfl | rfl | rfl | rfl | rfl
      · exact .inl rfl
      · exact .inl rfl
      · exact .inl rfl
      · exact .inl rfl
      · exact .inl rfl
      · exact .inl rfl
    · intro L
      refine WS_cons (WX_assign_own (.inl rfl) (own_params _) ?_)
      repeat (first | ((with_reducible show WE _ _ _ _ _ _ (.BinOp _ _ _ _) _); refine WE_binop ?_) | ((with_reducible show WE _ _ _ _ _ _ (.Constant (.float _) _ _) _); refine WE_flt ?_) | ((with_reducible show WE _ _ _ _ _ _ (.Constant (.int _) _ _) _); refine WE_int ?_) | ((with_reducible show WE _ _ _ _ _ _ (.Constant (.bool _) _ _) _); refine WE_bool ?_) | ((with_reducible show WE _ _ _ _ _ _ (.Name _ _) _); first | refine WE_name rfl ?_ | refine WE_name (by assumption) ?_ | refine WE_name (comp_get (by assumption)) ?_) | ((with_reducible show WE _ _ _ _ _ _ (.Tuple _ _ _) _); refine WE_tuple ?_) | ((with_reducible show WE _ _ _ _ _ _ (.List _ _) _); refine WE_list ?_) | ((with_reducible show WE _ _ _ _ _ _ (.Subscript _ (.Slice _ _ none _) _) _); refine WE_cut ?_) | ((with_reducible show WE _ _ _ _ _ _ (.Subscript _ _ _) _); refine WE_item ?_) | ((with_reducible show WE _ _ _ _ _ _ (.UnaryOp _ _ _) _); refine WE_unary ?_) | ((with_reducible show WP _ _ _ _ _ _ (some _) _); refine WP_some ?_) | ((with_reducible show WP _ _ _ _ _ _ none _); refine WP_none ?_) | ((with_reducible show WEs _ _ _ _ _ _ (_ :: _) _); refine WEs_cons ?_) | ((with_reducible show WEs _ _ _ _ _ _ [] _); refine WEs_nil ?_) | ((with_reducible show BO _ _ _ .Mult (.flt _) (.flt _) _); refine BO_mul_ff ?_) | ((with_reducible show BO _ _ _ .Add (.flt _) (.flt _) _); refine BO_add_ff ?_) | ((with_reducible show BO _ _ _ .Sub (.flt _) (.flt _) _); refine BO_sub_ff ?_) | ((with_reducible show BO _ _ _ .Add (.int _) (.int _) _); refine BO_add_ii ?_) | ((with_reducible show BO _ _ _ .Sub (.int _) (.int _) _); refine BO_sub_ii ?_) | ((with_reducible show BO _ _ _ .Mult (.int _) (.int _) _); refine BO_mul_ii (by first | exact mulL (by omega) (by omega) | exact mulR (by omega) (by omega)) ?_) | ((with_reducible show BO _ _ _ .Pow (.int _) (.int _) _); first | refine BO_pow_eq pow40 (by decide) (by decide) ?_ | refine BO_pow_eq pow52 (by decide) (by decide) ?_ | refine BO_pow_eq pow53 (by decide) (by decide) ?_ | refine BO_pow2 (by omega) (by omega) ?_) | ((with_reducible show BO _ _ _ .Mod (.int _) (.int _) _); refine BO_mod_p (by omega) ?_) | ((with_reducible show BO _ _ _ .FloorDiv (.int _) (.int _) _); refine BO_div_p (by omega) (by omega) ?_) | ((with_reducible show BO _ _ _ .Div (.int _) (.int _) _); refine BO_div_s (Rm.handled (by first | assumption | apply_assumption)) (by omega) (by omega) (by omega) ?_) | ((with_reducible show IO _ _ _ (.tup _) (.int (OfNat.ofNat _)) _); refine IO_ti (by decide) rfl (by decide) ?_) | ((with_reducible show UO _ _ _ .USub (.int _) _); refine UO_neg_i ?_))
      refine ⟨by simp, ?_⟩
      refine WS_cons (WX_for rfl (WI_lst (hA.deeper _).handled ?_) (fun _ => fold_lst))
      repeat (first | ((with_reducible show WE _ _ _ _ _ _ (.BinOp _ _ _ _) _); refine WE_binop ?_) | ((with_reducible show WE _ _ _ _ _ _ (.Constant (.float _) _ _) _); refine WE_flt ?_) | ((with_reducible show WE _ _ _ _ _ _ (.Constant (.int _) _ _) _); refine WE_int ?_) | ((with_reducible show WE _ _ _ _ _ _ (.Constant (.bool _) _ _) _); refine WE_bool ?_) | ((with_reducible show WE _ _ _ _ _ _ (.Name _ _) _); first | refine WE_name rfl ?_ | refine WE_name (by assumption) ?_ | refine WE_name (comp_get (by assumption)) ?_) | ((with_reducible show WE _ _ _ _ _ _ (.Tuple _ _ _) _); refine WE_tuple ?_) | ((with_reducible show WE _ _ _ _ _ _ (.List _ _) _); refine WE_list ?_) | ((with_reducible show WE _ _ _ _ _ _ (.Subscript _ (.Slice _ _ none _) _) _); refine WE_cut ?_) | ((with_reducible show WE _ _ _ _ _ _ (.Subscript _ _ _) _); refine WE_item ?_) | ((with_reducible show WE _ _ _ _ _ _ (.UnaryOp _ _ _) _); refine WE_unary ?_) | ((with_reducible show WP _ _ _ _ _ _ (some _) _); refine WP_some ?_) | ((with_reducible show WP _ _ _ _ _ _ none _); refine WP_none ?_) | ((with_reducible show WEs _ _ _ _ _ _ (_ :: _) _); refine WEs_cons ?_) | ((with_reducible show WEs _ _ _ _ _ _ [] _); refine WEs_nil ?_) | ((with_reducible show BO _ _ _ .Mult (.flt _) (.flt _) _); refine BO_mul_ff ?_) | ((with_reducible show BO _ _ _ .Add (.flt _) (.flt _) _); refine BO_add_ff ?_) | ((with_reducible show BO _ _ _ .Sub (.flt _) (.flt _) _); refine BO_sub_ff ?_) | ((with_reducible show BO _ _ _ .Add (.int _) (.int _) _); refine BO_add_ii ?_) | ((with_reducible show BO _ _ _ .Sub (.int _) (.int _) _); refine BO_sub_ii ?_) | ((with_reducible show BO _ _ _ .Mult (.int _) (.int _) _); refine BO_mul_ii (by first | exact mulL (by omega) (by omega) | exact mulR (by omega) (by omega)) ?_) | ((with_reducible show BO _ _ _ .Pow (.int _) (.int _) _); first | refine BO_pow_eq pow40 (by decide) (by decide) ?_ | refine BO_pow_eq pow52 (by decide) (by decide) ?_ | refine BO_pow_eq pow53 (by decide) (by decide) ?_ | refine BO_pow2 (by omega) (by omega) ?_) | ((with_reducible show BO _ _ _ .Mod (.int _) (.int _) _); refine BO_mod_p (by omega) ?_) | ((with_reducible show BO _ _ _ .FloorDiv (.int _) (.int _) _); refine BO_div_p (by omega) (by omega) ?_) | ((with_reducible show BO _ _ _ .Div (.int _) (.int _) _); refine BO_div_s (Rm.handled (by first | assumption | apply_assumption)) (by omega) (by omega) (by omega) ?_) | ((with_reducible show IO _ _ _ (.tup _) (.int (OfNat.ofNat _)) _); refine IO_ti (by decide) rfl (by decide) ?_) | ((with_reducible show UO _ _ _ .USub (.int _) _); refine UO_neg_i ?_))
      refine ⟨by simp, _, rfl, ?_⟩
      refine LoopP_all (fun i σ => σ "told" = some (.own ((([0, 2 * n, 4 * n] : List Int).take i).map (fun c => D.int (partI n m k hue l s c)))) ∧ σ "hue" = some (.dat (.int hue)) ∧ σ "l" = some (.dat (.int l)) ∧ σ "s" = some (.dat (.int s)) ∧ σ "n" = some (.dat (.int n)) ∧ σ "m" = some (.dat (.int m)) ∧ σ "k" = some (.dat (.int k))) ?_ ⟨rfl, rfl, rfl, rfl, rfl, rfl, rfl⟩ ?_
      · rintro i d σ hd ⟨h1, h2, h3, h4, h5, h6, h7⟩
        obtain ⟨c, hc', rfl⟩ := item3 hd
        refine ⟨_, WA_name (.inl rfl), ?_⟩
        refine WS_cons (WX_assign (.inl rfl) ?_)
        repeat (first | ((with_reducible show WE _ _ _ _ _ _ (.BinOp _ _ _ _) _); refine WE_binop ?_) | ((with_reducible show WE _ _ _ _ _ _ (.Constant (.float _) _ _) _); refine WE_flt ?_) | ((with_reducible show WE _ _ _ _ _ _ (.Constant (.int _) _ _) _); refine WE_int ?_) | ((with_reducible show WE _ _ _ _ _ _ (.Constant (.bool _) _ _) _); refine WE_bool ?_) | ((with_reducible show WE _ _ _ _ _ _ (.Name _ _) _); first | refine WE_name rfl ?_ | refine WE_name (by assumption) ?_ | refine WE_name (comp_get (by assumption)) ?_) | ((with_reducible show WE _ _ _ _ _ _ (.Tuple _ _ _) _); refine WE_tuple ?_) | ((with_reducible show WE _ _ _ _ _ _ (.List _ _) _); refine WE_list ?_) | ((with_reducible show WE _ _ _ _ _ _ (.Subscript _ (.Slice _ _ none _) _) _); refine WE_cut ?_) | ((with_reducible show WE _ _ _ _ _ _ (.Subscript _ _ _) _); refine WE_item ?_) | ((with_reducible show WE _ _ _ _ _ _ (.UnaryOp _ _ _) _); refine WE_unary ?_) | ((with_reducible show WP _ _ _ _ _ _ (some _) _); refine WP_some ?_) | ((with_reducible show WP _ _ _ _ _ _ none _); refine WP_none ?_) | ((with_reducible show WEs _ _ _ _ _ _ (_ :: _) _); refine WEs_cons ?_) | ((with_reducible show WEs _ _ _ _ _ _ [] _); refine WEs_nil ?_) | ((with_reducible show BO _ _ _ .Mult (.flt _) (.flt _) _); refine BO_mul_ff ?_) | ((with_reducible show BO _ _ _ .Add (.flt _) (.flt _) _); refine BO_add_ff ?_) | ((with_reducible show BO _ _ _ .Sub (.flt _) (.flt _) _); refine BO_sub_ff ?_) | ((with_reducible show BO _ _ _ .Add (.int _) (.int _) _); refine BO_add_ii ?_) | ((with_reducible show BO _ _ _ .Sub (.int _) (.int _) _); refine BO_sub_ii ?_) | ((with_reducible show BO _ _ _ .Mult (.int _) (.int _) _); refine BO_mul_ii (by first | exact mulL (by omega) (by omega) | exact mulR (by omega) (by omega)) ?_) | ((with_reducible show BO _ _ _ .Pow (.int _) (.int _) _); first | refine BO_pow_eq pow40 (by decide) (by decide) ?_ | refine BO_pow_eq pow52 (by decide) (by decide) ?_ | refine BO_pow_eq pow53 (by decide) (by decide) ?_ | refine BO_pow2 (by omega) (by omega) ?_) | ((with_reducible show BO _ _ _ .Mod (.int _) (.int _) _); refine BO_mod_p (by omega) ?_) | ((with_reducible show BO _ _ _ .FloorDiv (.int _) (.int _) _); refine BO_div_p (by omega) (by omega) ?_) | ((with_reducible show BO _ _ _ .Div (.int _) (.int _) _); refine BO_div_s (Rm.handled (by first | assumption | apply_assumption)) (by omega) (by omega) (by omega) ?_) | ((with_reducible show IO _ _ _ (.tup _) (.int (OfNat.ofNat _)) _); refine IO_ti (by decide) rfl (by decide) ?_) | ((with_reducible show UO _ _ _ .USub (.int _) _); refine UO_neg_i ?_))
        refine WS_cons (WX_assign (.inl rfl) ?_)
        refine WE_call_builtin GB rfl nmin (by with_unfolding_all rfl) ?_
        repeat (first | ((with_reducible show WE _ _ _ _ _ _ (.BinOp _ _ _ _) _); refine WE_binop ?_) | ((with_reducible show WE _ _ _ _ _ _ (.Constant (.float _) _ _) _); refine WE_flt ?_) | ((with_reducible show WE _ _ _ _ _ _ (.Constant (.int _) _ _) _); refine WE_int ?_) | ((with_reducible show WE _ _ _ _ _ _ (.Constant (.bool _) _ _) _); refine WE_bool ?_) | ((with_reducible show WE _ _ _ _ _ _ (.Name _ _) _); first | refine WE_name rfl ?_ | refine WE_name (by assumption) ?_ | refine WE_name (comp_get (by assumption)) ?_) | ((with_reducible show WE _ _ _ _ _ _ (.Tuple _ _ _) _); refine WE_tuple ?_) | ((with_reducible show WE _ _ _ _ _ _ (.List _ _) _); refine WE_list ?_) | ((with_reducible show WE _ _ _ _ _ _ (.Subscript _ (.Slice _ _ none _) _) _); refine WE_cut ?_) | ((with_reducible show WE _ _ _ _ _ _ (.Subscript _ _ _) _); refine WE_item ?_) | ((with_reducible show WE _ _ _ _ _ _ (.UnaryOp _ _ _) _); refine WE_unary ?_) | ((with_reducible show WP _ _ _ _ _ _ (some _) _); refine WP_some ?_) | ((with_reducible show WP _ _ _ _ _ _ none _); refine WP_none ?_) | ((with_reducible show WEs _ _ _ _ _ _ (_ :: _) _); refine WEs_cons ?_) | ((with_reducible show WEs _ _ _ _ _ _ [] _); refine WEs_nil ?_) | ((with_reducible show BO _ _ _ .Mult (.flt _) (.flt _) _); refine BO_mul_ff ?_) | ((with_reducible show BO _ _ _ .Add (.flt _) (.flt _) _); refine BO_add_ff ?_) | ((with_reducible show BO _ _ _ .Sub (.flt _) (.flt _) _); refine BO_sub_ff ?_) | ((with_reducible show BO _ _ _ .Add (.int _) (.int _) _); refine BO_add_ii ?_) | ((with_reducible show BO _ _ _ .Sub (.int _) (.int _) _); refine BO_sub_ii ?_) | ((with_reducible show BO _ _ _ .Mult (.int _) (.int _) _); refine BO_mul_ii (by first | exact mulL (by omega) (by omega) | exact mulR (by omega) (by omega)) ?_) | ((with_reducible show BO _ _ _ .Pow (.int _) (.int _) _); first | refine BO_pow_eq pow40 (by decide) (by decide) ?_ | refine BO_pow_eq pow52 (by decide) (by decide) ?_ | refine BO_pow_eq pow53 (by decide) (by decide) ?_ | refine BO_pow2 (by omega) (by omega) ?_) | ((with_reducible show BO _ _ _ .Mod (.int _) (.int _) _); refine BO_mod_p (by omega) ?_) | ((with_reducible show BO _ _ _ .FloorDiv (.int _) (.int _) _); refine BO_div_p (by omega) (by omega) ?_) | ((with_reducible show BO _ _ _ .Div (.int _) (.int _) _); refine BO_div_s (Rm.handled (by first | assumption | apply_assumption)) (by omega) (by omega) (by omega) ?_) | ((with_reducible show IO _ _ _ (.tup _) (.int (OfNat.ofNat _)) _); refine IO_ti (by decide) rfl (by decide) ?_) | ((with_reducible show UO _ _ _ .USub (.int _) _); refine UO_neg_i ?_))
        refine WE_call_builtin GB rfl nmax (by with_unfolding_all rfl) ?_
        repeat (first | ((with_reducible show WE _ _ _ _ _ _ (.BinOp _ _ _ _) _); refine WE_binop ?_) | ((with_reducible show WE _ _ _ _ _ _ (.Constant (.float _) _ _) _); refine WE_flt ?_) | ((with_reducible show WE _ _ _ _ _ _ (.Constant (.int _) _ _) _); refine WE_int ?_) | ((with_reducible show WE _ _ _ _ _ _ (.Constant (.bool _) _ _) _); refine WE_bool ?_) | ((with_reducible show WE _ _ _ _ _ _ (.Name _ _) _); first | refine WE_name rfl ?_ | refine WE_name (by assumption) ?_ | refine WE_name (comp_get (by assumption)) ?_) | ((with_reducible show WE _ _ _ _ _ _ (.Tuple _ _ _) _); refine WE_tuple ?_) | ((with_reducible show WE _ _ _ _ _ _ (.List _ _) _); refine WE_list ?_) | ((with_reducible show WE _ _ _ _ _ _ (.Subscript _ (.Slice _ _ none _) _) _); refine WE_cut ?_) | ((with_reducible show WE _ _ _ _ _ _ (.Subscript _ _ _) _); refine WE_item ?_) | ((with_reducible show WE _ _ _ _ _ _ (.UnaryOp _ _ _) _); refine WE_unary ?_) | ((with_reducible show WP _ _ _ _ _ _ (some _) _); refine WP_some ?_) | ((with_reducible show WP _ _ _ _ _ _ none _); refine WP_none ?_) | ((with_reducible show WEs _ _ _ _ _ _ (_ :: _) _); refine WEs_cons ?_) | ((with_reducible show WEs _ _ _ _ _ _ [] _); refine WEs_nil ?_) | ((with_reducible show BO _ _ _ .Mult (.flt _) (.flt _) _); refine BO_mul_ff ?_) | ((with_reducible show BO _ _ _ .Add (.flt _) (.flt _) _); refine BO_add_ff ?_) | ((with_reducible show BO _ _ _ .Sub (.flt _) (.flt _) _); refine BO_sub_ff ?_) | ((with_reducible show BO _ _ _ .Add (.int _) (.int _) _); refine BO_add_ii ?_) | ((with_reducible show BO _ _ _ .Sub (.int _) (.int _) _); refine BO_sub_ii ?_) | ((with_reducible show BO _ _ _ .Mult (.int _) (.int _) _); refine BO_mul_ii (by first | exact mulL (by omega) (by omega) | exact mulR (by omega) (by omega)) ?_) | ((with_reducible show BO _ _ _ .Pow (.int _) (.int _) _); first | refine BO_pow_eq pow40 (by decide) (by decide) ?_ | refine BO_pow_eq pow52 (by decide) (by decide) ?_ | refine BO_pow_eq pow53 (by decide) (by decide) ?_ | refine BO_pow2 (by omega) (by omega) ?_) | ((with_reducible show BO _ _ _ .Mod (.int _) (.int _) _); refine BO_mod_p (by omega) ?_) | ((with_reducible show BO _ _ _ .FloorDiv (.int _) (.int _) _); refine BO_div_p (by omega) (by omega) ?_) | ((with_reducible show BO _ _ _ .Div (.int _) (.int _) _); refine BO_div_s (Rm.handled (by first | assumption | apply_assumption)) (by omega) (by omega) (by omega) ?_) | ((with_reducible show IO _ _ _ (.tup _) (.int (OfNat.ofNat _)) _); refine IO_ti (by decide) rfl (by decide) ?_) | ((with_reducible show UO _ _ _ .USub (.int _) _); refine UO_neg_i ?_))
        refine WE_call_builtin GB rfl nmin (by with_unfolding_all rfl) ?_
        repeat (first | ((with_reducible show WE _ _ _ _ _ _ (.BinOp _ _ _ _) _); refine WE_binop ?_) | ((with_reducible show WE _ _ _ _ _ _ (.Constant (.float _) _ _) _); refine WE_flt ?_) | ((with_reducible show WE _ _ _ _ _ _ (.Constant (.int _) _ _) _); refine WE_int ?_) | ((with_reducible show WE _ _ _ _ _ _ (.Constant (.bool _) _ _) _); refine WE_bool ?_) | ((with_reducible show WE _ _ _ _ _ _ (.Name _ _) _); first | refine WE_name rfl ?_ | refine WE_name (by assumption) ?_ | refine WE_name (comp_get (by assumption)) ?_) | ((with_reducible show WE _ _ _ _ _ _ (.Tuple _ _ _) _); refine WE_tuple ?_) | ((with_reducible show WE _ _ _ _ _ _ (.List _ _) _); refine WE_list ?_) | ((with_reducible show WE _ _ _ _ _ _ (.Subscript _ (.Slice _ _ none _) _) _); refine WE_cut ?_) | ((with_reducible show WE _ _ _ _ _ _ (.Subscript _ _ _) _); refine WE_item ?_) | ((with_reducible show WE _ _ _ _ _ _ (.UnaryOp _ _ _) _); refine WE_unary ?_) | ((with_reducible show WP _ _ _ _ _ _ (some _) _); refine WP_some ?_) | ((with_reducible show WP _ _ _ _ _ _ none _); refine WP_none ?_) | ((with_reducible show WEs _ _ _ _ _ _ (_ :: _) _); refine WEs_cons ?_) | ((with_reducible show WEs _ _ _ _ _ _ [] _); refine WEs_nil ?_) | ((with_reducible show BO _ _ _ .Mult (.flt _) (.flt _) _); refine BO_mul_ff ?_) | ((with_reducible show BO _ _ _ .Add (.flt _) (.flt _) _); refine BO_add_ff ?_) | ((with_reducible show BO _ _ _ .Sub (.flt _) (.flt _) _); refine BO_sub_ff ?_) | ((with_reducible show BO _ _ _ .Add (.int _) (.int _) _); refine BO_add_ii ?_) | ((with_reducible show BO _ _ _ .Sub (.int _) (.int _) _); refine BO_sub_ii ?_) | ((with_reducible show BO _ _ _ .Mult (.int _) (.int _) _); refine BO_mul_ii (by first | exact mulL (by omega) (by omega) | exact mulR (by omega) (by omega)) ?_) | ((with_reducible show BO _ _ _ .Pow (.int _) (.int _) _); first | refine BO_pow_eq pow40 (by decide) (by decide) ?_ | refine BO_pow_eq pow52 (by decide) (by decide) ?_ | refine BO_pow_eq pow53 (by decide) (by decide) ?_ | refine BO_pow2 (by omega) (by omega) ?_) | ((with_reducible show BO _ _ _ .Mod (.int _) (.int _) _); refine BO_mod_p (by omega) ?_) | ((with_reducible show BO _ _ _ .FloorDiv (.int _) (.int _) _); refine BO_div_p (by omega) (by omega) ?_) | ((with_reducible show BO _ _ _ .Div (.int _) (.int _) _); refine BO_div_s (Rm.handled (by first | assumption | apply_assumption)) (by omega) (by omega) (by omega) ?_) | ((with_reducible show IO _ _ _ (.tup _) (.int (OfNat.ofNat _)) _); refine IO_ti (by decide) rfl (by decide) ?_) | ((with_reducible show UO _ _ _ .USub (.int _) _); refine UO_neg_i ?_))
        refine WC_min_ii (hA.deeper _).handled ?_
        repeat (first | ((with_reducible show WE _ _ _ _ _ _ (.BinOp _ _ _ _) _); refine WE_binop ?_) | ((with_reducible show WE _ _ _ _ _ _ (.Constant (.float _) _ _) _); refine WE_flt ?_) | ((with_reducible show WE _ _ _ _ _ _ (.Constant (.int _) _ _) _); refine WE_int ?_) | ((with_reducible show WE _ _ _ _ _ _ (.Constant (.bool _) _ _) _); refine WE_bool ?_) | ((with_reducible show WE _ _ _ _ _ _ (.Name _ _) _); first | refine WE_name rfl ?_ | refine WE_name (by assumption) ?_ | refine WE_name (comp_get (by assumption)) ?_) | ((with_reducible show WE _ _ _ _ _ _ (.Tuple _ _ _) _); refine WE_tuple ?_) | ((with_reducible show WE _ _ _ _ _ _ (.List _ _) _); refine WE_list ?_) | ((with_reducible show WE _ _ _ _ _ _ (.Subscript _ (.Slice _ _ none _) _) _); refine WE_cut ?_) | ((with_reducible show WE _ _ _ _ _ _ (.Subscript _ _ _) _); refine WE_item ?_) | ((with_reducible show WE _ _ _ _ _ _ (.UnaryOp _ _ _) _); refine WE_unary ?_) | ((with_reducible show WP _ _ _ _ _ _ (some _) _); refine WP_some ?_) | ((with_reducible show WP _ _ _ _ _ _ none _); refine WP_none ?_) | ((with_reducible show WEs _ _ _ _ _ _ (_ :: _) _); refine WEs_cons ?_) | ((with_reducible show WEs _ _ _ _ _ _ [] _); refine WEs_nil ?_) | ((with_reducible show BO _ _ _ .Mult (.flt _) (.flt _) _); refine BO_mul_ff ?_) | ((with_reducible show BO _ _ _ .Add (.flt _) (.flt _) _); refine BO_add_ff ?_) | ((with_reducible show BO _ _ _ .Sub (.flt _) (.flt _) _); refine BO_sub_ff ?_) | ((with_reducible show BO _ _ _ .Add (.int _) (.int _) _); refine BO_add_ii ?_) | ((with_reducible show BO _ _ _ .Sub (.int _) (.int _) _); refine BO_sub_ii ?_) | ((with_reducible show BO _ _ _ .Mult (.int _) (.int _) _); refine BO_mul_ii (by first | exact mulL (by omega) (by omega) | exact mulR (by omega) (by omega)) ?_) | ((with_reducible show BO _ _ _ .Pow (.int _) (.int _) _); first | refine BO_pow_eq pow40 (by decide) (by decide) ?_ | refine BO_pow_eq pow52 (by decide) (by decide) ?_ | refine BO_pow_eq pow53 (by decide) (by decide) ?_ | refine BO_pow2 (by omega) (by omega) ?_) | ((with_reducible show BO _ _ _ .Mod (.int _) (.int _) _); refine BO_mod_p (by omega) ?_) | ((with_reducible show BO _ _ _ .FloorDiv (.int _) (.int _) _); refine BO_div_p (by omega) (by omega) ?_) | ((with_reducible show BO _ _ _ .Div (.int _) (.int _) _); refine BO_div_s (Rm.handled (by first | assumption | apply_assumption)) (by omega) (by omega) (by omega) ?_) | ((with_reducible show IO _ _ _ (.tup _) (.int (OfNat.ofNat _)) _); refine IO_ti (by decide) rfl (by decide) ?_) | ((with_reducible show UO _ _ _ .USub (.int _) _); refine UO_neg_i ?_))
        refine WC_max_ii (hA.deeper _).handled ?_
        repeat (first | ((with_reducible show WE _ _ _ _ _ _ (.BinOp _ _ _ _) _); refine WE_binop ?_) | ((with_reducible show WE _ _ _ _ _ _ (.Constant (.float _) _ _) _); refine WE_flt ?_) | ((with_reducible show WE _ _ _ _ _ _ (.Constant (.int _) _ _) _); refine WE_int ?_) | ((with_reducible show WE _ _ _ _ _ _ (.Constant (.bool _) _ _) _); refine WE_bool ?_) | ((with_reducible show WE _ _ _ _ _ _ (.Name _ _) _); first | refine WE_name rfl ?_ | refine WE_name (by assumption) ?_ | refine WE_name (comp_get (by assumption)) ?_) | ((with_reducible show WE _ _ _ _ _ _ (.Tuple _ _ _) _); refine WE_tuple ?_) | ((with_reducible show WE _ _ _ _ _ _ (.List _ _) _); refine WE_list ?_) | ((with_reducible show WE _ _ _ _ _ _ (.Subscript _ (.Slice _ _ none _) _) _); refine WE_cut ?_) | ((with_reducible show WE _ _ _ _ _ _ (.Subscript _ _ _) _); refine WE_item ?_) | ((with_reducible show WE _ _ _ _ _ _ (.UnaryOp _ _ _) _); refine WE_unary ?_) | ((with_reducible show WP _ _ _ _ _ _ (some _) _); refine WP_some ?_) | ((with_reducible show WP _ _ _ _ _ _ none _); refine WP_none ?_) | ((with_reducible show WEs _ _ _ _ _ _ (_ :: _) _); refine WEs_cons ?_) | ((with_reducible show WEs _ _ _ _ _ _ [] _); refine WEs_nil ?_) | ((with_reducible show BO _ _ _ .Mult (.flt _) (.flt _) _); refine BO_mul_ff ?_) | ((with_reducible show BO _ _ _ .Add (.flt _) (.flt _) _); refine BO_add_ff ?_) | ((with_reducible show BO _ _ _ .Sub (.flt _) (.flt _) _); refine BO_sub_ff ?_) | ((with_reducible show BO _ _ _ .Add (.int _) (.int _) _); refine BO_add_ii ?_) | ((with_reducible show BO _ _ _ .Sub (.int _) (.int _) _); refine BO_sub_ii ?_) | ((with_reducible show BO _ _ _ .Mult (.int _) (.int _) _); refine BO_mul_ii (by first | exact mulL (by omega) (by omega) | exact mulR (by omega) (by omega)) ?_) | ((with_reducible show BO _ _ _ .Pow (.int _) (.int _) _); first | refine BO_pow_eq pow40 (by decide) (by decide) ?_ | refine BO_pow_eq pow52 (by decide) (by decide) ?_ | refine BO_pow_eq pow53 (by decide) (by decide) ?_ | refine BO_pow2 (by omega) (by omega) ?_) | ((with_reducible show BO _ _ _ .Mod (.int _) (.int _) _); refine BO_mod_p (by omega) ?_) | ((with_reducible show BO _ _ _ .FloorDiv (.int _) (.int _) _); refine BO_div_p (by omega) (by omega) ?_) | ((with_reducible show BO _ _ _ .Div (.int _) (.int _) _); refine BO_div_s (Rm.handled (by first | assumption | apply_assumption)) (by omega) (by omega) (by omega) ?_) | ((with_reducible show IO _ _ _ (.tup _) (.int (OfNat.ofNat _)) _); refine IO_ti (by decide) rfl (by decide) ?_) | ((with_reducible show UO _ _ _ .USub (.int _) _); refine UO_neg_i ?_))
        refine WC_min_ii (hA.deeper _).handled ?_
        have fb := fall_bd (n := n) (hue := hue) (corner := c) hn.1
        change WS _ _ _ _ _ (Store.set _ _ (.dat (.int (fallI n hue c)))) _ _
        refine WS_cons (WX_append rfl h1 (by simp; omega) ?_)
        repeat (first | ((with_reducible show WE _ _ _ _ _ _ (.BinOp _ _ _ _) _); refine WE_binop ?_) | ((with_reducible show WE _ _ _ _ _ _ (.Constant (.float _) _ _) _); refine WE_flt ?_) | ((with_reducible show WE _ _ _ _ _ _ (.Constant (.int _) _ _) _); refine WE_int ?_) | ((with_reducible show WE _ _ _ _ _ _ (.Constant (.bool _) _ _) _); refine WE_bool ?_) | ((with_reducible show WE _ _ _ _ _ _ (.Name _ _) _); first | refine WE_name rfl ?_ | refine WE_name (by assumption) ?_ | refine WE_name (comp_get (by assumption)) ?_) | ((with_reducible show WE _ _ _ _ _ _ (.Tuple _ _ _) _); refine WE_tuple ?_) | ((with_reducible show WE _ _ _ _ _ _ (.List _ _) _); refine WE_list ?_) | ((with_reducible show WE _ _ _ _ _ _ (.Subscript _ (.Slice _ _ none _) _) _); refine WE_cut ?_) | ((with_reducible show WE _ _ _ _ _ _ (.Subscript _ _ _) _); refine WE_item ?_) | ((with_reducible show WE _ _ _ _ _ _ (.UnaryOp _ _ _) _); refine WE_unary ?_) | ((with_reducible show WP _ _ _ _ _ _ (some _) _); refine WP_some ?_) | ((with_reducible show WP _ _ _ _ _ _ none _); refine WP_none ?_) | ((with_reducible show WEs _ _ _ _ _ _ (_ :: _) _); refine WEs_cons ?_) | ((with_reducible show WEs _ _ _ _ _ _ [] _); refine WEs_nil ?_) | ((with_reducible show BO _ _ _ .Mult (.flt _) (.flt _) _); refine BO_mul_ff ?_) | ((with_reducible show BO _ _ _ .Add (.flt _) (.flt _) _); refine BO_add_ff ?_) | ((with_reducible show BO _ _ _ .Sub (.flt _) (.flt _) _); refine BO_sub_ff ?_) | ((with_reducible show BO _ _ _ .Add (.int _) (.int _) _); refine BO_add_ii ?_) | ((with_reducible show BO _ _ _ .Sub (.int _) (.int _) _); refine BO_sub_ii ?_) | ((with_reducible show BO _ _ _ .Mult (.int _) (.int _) _); refine BO_mul_ii (by first | exact mulL (by omega) (by omega) | exact mulR (by omega) (by omega)) ?_) | ((with_reducible show BO _ _ _ .Pow (.int _) (.int _) _); first | refine BO_pow_eq pow40 (by decide) (by decide) ?_ | refine BO_pow_eq pow52 (by decide) (by decide) ?_ | refine BO_pow_eq pow53 (by decide) (by decide) ?_ | refine BO_pow2 (by omega) (by omega) ?_) | ((with_reducible show BO _ _ _ .Mod (.int _) (.int _) _); refine BO_mod_p (by omega) ?_) | ((with_reducible show BO _ _ _ .FloorDiv (.int _) (.int _) _); refine BO_div_p (by omega) (by omega) ?_) | ((with_reducible show BO _ _ _ .Div (.int _) (.int _) _); refine BO_div_s (Rm.handled (by first | assumption | apply_assumption)) (by omega) (by omega) (by omega) ?_) | ((with_reducible show IO _ _ _ (.tup _) (.int (OfNat.ofNat _)) _); refine IO_ti (by decide) rfl (by decide) ?_) | ((with_reducible show UO _ _ _ .USub (.int _) _); refine UO_neg_i ?_))
        refine WE_call_builtin GB rfl nmin (by with_unfolding_all rfl) ?_
        repeat (first | ((with_reducible show WE _ _ _ _ _ _ (.BinOp _ _ _ _) _); refine WE_binop ?_) | ((with_reducible show WE _ _ _ _ _ _ (.Constant (.float _) _ _) _); refine WE_flt ?_) | ((with_reducible show WE _ _ _ _ _ _ (.Constant (.int _) _ _) _); refine WE_int ?_) | ((with_reducible show WE _ _ _ _ _ _ (.Constant (.bool _) _ _) _); refine WE_bool ?_) | ((with_reducible show WE _ _ _ _ _ _ (.Name _ _) _); first | refine WE_name rfl ?_ | refine WE_name (by assumption) ?_ | refine WE_name (comp_get (by assumption)) ?_) | ((with_reducible show WE _ _ _ _ _ _ (.Tuple _ _ _) _); refine WE_tuple ?_) | ((with_reducible show WE _ _ _ _ _ _ (.List _ _) _); refine WE_list ?_) | ((with_reducible show WE _ _ _ _ _ _ (.Subscript _ (.Slice _ _ none _) _) _); refine WE_cut ?_) | ((with_reducible show WE _ _ _ _ _ _ (.Subscript _ _ _) _); refine WE_item ?_) | ((with_reducible show WE _ _ _ _ _ _ (.UnaryOp _ _ _) _); refine WE_unary ?_) | ((with_reducible show WP _ _ _ _ _ _ (some _) _); refine WP_some ?_) | ((with_reducible show WP _ _ _ _ _ _ none _); refine WP_none ?_) | ((with_reducible show WEs _ _ _ _ _ _ (_ :: _) _); refine WEs_cons ?_) | ((with_reducible show WEs _ _ _ _ _ _ [] _); refine WEs_nil ?_) | ((with_reducible show BO _ _ _ .Mult (.flt _) (.flt _) _); refine BO_mul_ff ?_) | ((with_reducible show BO _ _ _ .Add (.flt _) (.flt _) _); refine BO_add_ff ?_) | ((with_reducible show BO _ _ _ .Sub (.flt _) (.flt _) _); refine BO_sub_ff ?_) | ((with_reducible show BO _ _ _ .Add (.int _) (.int _) _); refine BO_add_ii ?_) | ((with_reducible show BO _ _ _ .Sub (.int _) (.int _) _); refine BO_sub_ii ?_) | ((with_reducible show BO _ _ _ .Mult (.int _) (.int _) _); refine BO_mul_ii (by first | exact mulL (by omega) (by omega) | exact mulR (by omega) (by omega)) ?_) | ((with_reducible show BO _ _ _ .Pow (.int _) (.int _) _); first | refine BO_pow_eq pow40 (by decide) (by decide) ?_ | refine BO_pow_eq pow52 (by decide) (by decide) ?_ | refine BO_pow_eq pow53 (by decide) (by decide) ?_ | refine BO_pow2 (by omega) (by omega) ?_) | ((with_reducible show BO _ _ _ .Mod (.int _) (.int _) _); refine BO_mod_p (by omega) ?_) | ((with_reducible show BO _ _ _ .FloorDiv (.int _) (.int _) _); refine BO_div_p (by omega) (by omega) ?_) | ((with_reducible show BO _ _ _ .Div (.int _) (.int _) _); refine BO_div_s (Rm.handled (by first | assumption | apply_assumption)) (by omega) (by omega) (by omega) ?_) | ((with_reducible show IO _ _ _ (.tup _) (.int (OfNat.ofNat _)) _); refine IO_ti (by decide) rfl (by decide) ?_) | ((with_reducible show UO _ _ _ .USub (.int _) _); refine UO_neg_i ?_))
        refine WC_min_ii (hA.deeper _).handled ?_
        repeat (first | ((with_reducible show WE _ _ _ _ _ _ (.BinOp _ _ _ _) _); refine WE_binop ?_) | ((with_reducible show WE _ _ _ _ _ _ (.Constant (.float _) _ _) _); refine WE_flt ?_) | ((with_reducible show WE _ _ _ _ _ _ (.Constant (.int _) _ _) _); refine WE_int ?_) | ((with_reducible show WE _ _ _ _ _ _ (.Constant (.bool _) _ _) _); refine WE_bool ?_) | ((with_reducible show WE _ _ _ _ _ _ (.Name _ _) _); first | refine WE_name rfl ?_ | refine WE_name (by assumption) ?_ | refine WE_name (comp_get (by assumption)) ?_) | ((with_reducible show WE _ _ _ _ _ _ (.Tuple _ _ _) _); refine WE_tuple ?_) | ((with_reducible show WE _ _ _ _ _ _ (.List _ _) _); refine WE_list ?_) | ((with_reducible show WE _ _ _ _ _ _ (.Subscript _ (.Slice _ _ none _) _) _); refine WE_cut ?_) | ((with_reducible show WE _ _ _ _ _ _ (.Subscript _ _ _) _); refine WE_item ?_) | ((with_reducible show WE _ _ _ _ _ _ (.UnaryOp _ _ _) _); refine WE_unary ?_) | ((with_reducible show WP _ _ _ _ _ _ (some _) _); refine WP_some ?_) | ((with_reducible show WP _ _ _ _ _ _ none _); refine WP_none ?_) | ((with_reducible show WEs _ _ _ _ _ _ (_ :: _) _); refine WEs_cons ?_) | ((with_reducible show WEs _ _ _ _ _ _ [] _); refine WEs_nil ?_) | ((with_reducible show BO _ _ _ .Mult (.flt _) (.flt _) _); refine BO_mul_ff ?_) | ((with_reducible show BO _ _ _ .Add (.flt _) (.flt _) _); refine BO_add_ff ?_) | ((with_reducible show BO _ _ _ .Sub (.flt _) (.flt _) _); refine BO_sub_ff ?_) | ((with_reducible show BO _ _ _ .Add (.int _) (.int _) _); refine BO_add_ii ?_) | ((with_reducible show BO _ _ _ .Sub (.int _) (.int _) _); refine BO_sub_ii ?_) | ((with_reducible show BO _ _ _ .Mult (.int _) (.int _) _); refine BO_mul_ii (by first | exact mulL (by omega) (by omega) | exact mulR (by omega) (by omega)) ?_) | ((with_reducible show BO _ _ _ .Pow (.int _) (.int _) _); first | refine BO_pow_eq pow40 (by decide) (by decide) ?_ | refine BO_pow_eq pow52 (by decide) (by decide) ?_ | refine BO_pow_eq pow53 (by decide) (by decide) ?_ | refine BO_pow2 (by omega) (by omega) ?_) | ((with_reducible show BO _ _ _ .Mod (.int _) (.int _) _); refine BO_mod_p (by omega) ?_) | ((with_reducible show BO _ _ _ .FloorDiv (.int _) (.int _) _); refine BO_div_p (by omega) (by omega) ?_) | ((with_reducible show BO _ _ _ .Div (.int _) (.int _) _); refine BO_div_s (Rm.handled (by first | assumption | apply_assumption)) (by omega) (by omega) (by omega) ?_) | ((with_reducible show IO _ _ _ (.tup _) (.int (OfNat.ofNat _)) _); refine IO_ti (by decide) rfl (by decide) ?_) | ((with_reducible show UO _ _ _ .USub (.int _) _); refine UO_neg_i ?_))
        refine WS_nil ⟨rfl, ?_, h2, h3, h4, h5, h6, h7⟩
        exact congrArg (fun x => some (Slot.own x)) (take3 (f := (fun c => D.int (partI n m k hue l s c))) hc')
      rintro σ ⟨h1, _⟩
      refine WS_freeze rfl h1 (WS_cons (WX_return (WE_name rfl ?_)))
      rfl
  obtain rfl := hD.none rfl
  obtain rfl := hD.noKw
  refine wpAny_mono (law_call (n := Str.ofString "script") GB ⟨hmg, ⟨o, ho, hd⟩, hcd⟩ (Rm.caller.room) rfl rfl rfl rfl rfl rfl rfl rfl rfl rfl (well_ints hW) ?_) ?_ ?_
  · intro L
    have hA : ∀ env, Rm 19 (callerA.deeper env) := fun _ => Rm.caller.deeper _
    rename List Int => ns
    refine WS_cons ?_
    refine WX.mono (Q := fun oo σ => oo = .next ∧ σ "script" = some (.dat (.lst (ns.map D.int))) ∧ ∃ way : Int, σ "way" = some (.dat (.int way))) ?_ ?_
    · refine WX_assign (.inl rfl) (WE_ifexp (WT_plain ?_))
      repeat (first | ((with_reducible show WE _ _ _ _ _ _ (.BinOp _ _ _ _) _); refine WE_binop ?_) | ((with_reducible show WE _ _ _ _ _ _ (.Constant (.float _) _ _) _); refine WE_flt ?_) | ((with_reducible show WE _ _ _ _ _ _ (.Constant (.int _) _ _) _); refine WE_int ?_) | ((with_reducible show WE _ _ _ _ _ _ (.Constant (.bool _) _ _) _); refine WE_bool ?_) | ((with_reducible show WE _ _ _ _ _ _ (.Name _ _) _); first | refine WE_name rfl ?_ | refine WE_name (by assumption) ?_ | refine WE_name (comp_get (by assumption)) ?_) | ((with_reducible show WE _ _ _ _ _ _ (.Tuple _ _ _) _); refine WE_tuple ?_) | ((with_reducible show WE _ _ _ _ _ _ (.List _ _) _); refine WE_list ?_) | ((with_reducible show WE _ _ _ _ _ _ (.Subscript _ (.Slice _ _ none _) _) _); refine WE_cut ?_) | ((with_reducible show WE _ _ _ _ _ _ (.Subscript _ _ _) _); refine WE_item ?_) | ((with_reducible show WE _ _ _ _ _ _ (.UnaryOp _ _ _) _); refine WE_unary ?_) | ((with_reducible show WP _ _ _ _ _ _ (some _) _); refine WP_some ?_) | ((with_reducible show WP _ _ _ _ _ _ none _); refine WP_none ?_) | ((with_reducible show WEs _ _ _ _ _ _ (_ :: _) _); refine WEs_cons ?_) | ((with_reducible show WEs _ _ _ _ _ _ [] _); refine WEs_nil ?_) | ((with_reducible show BO _ _ _ .Mult (.flt _) (.flt _) _); refine BO_mul_ff ?_) | ((with_reducible show BO _ _ _ .Add (.flt _) (.flt _) _); refine BO_add_ff ?_) | ((with_reducible show BO _ _ _ .Sub (.flt _) (.flt _) _); refine BO_sub_ff ?_) | ((with_reducible show BO _ _ _ .Add (.int _) (.int _) _); refine BO_add_ii ?_) | ((with_reducible show BO _ _ _ .Sub (.int _) (.int _) _); refine BO_sub_ii ?_) | ((with_reducible show BO _ _ _ .Mult (.int _) (.int _) _); refine BO_mul_ii (by first | exact mulL (by omega) (by omega) | exact mulR (by omega) (by omega)) ?_) | ((with_reducible show BO _ _ _ .Pow (.int _) (.int _) _); first | refine BO_pow_eq pow40 (by decide) (by decide) ?_ | refine BO_pow_eq pow52 (by decide) (by decide) ?_ | refine BO_pow_eq pow53 (by decide) (by decide) ?_ | refine BO_pow2 (by omega) (by omega) ?_) | ((with_reducible show BO _ _ _ .Mod (.int _) (.int _) _); refine BO_mod_p (by omega) ?_) | ((with_reducible show BO _ _ _ .FloorDiv (.int _) (.int _) _); refine BO_div_p (by omega) (by omega) ?_) | ((with_reducible show BO _ _ _ .Div (.int _) (.int _) _); refine BO_div_s (Rm.handled (by first | assumption | apply_assumption)) (by omega) (by omega) (by omega) ?_) | ((with_reducible show IO _ _ _ (.tup _) (.int (OfNat.ofNat _)) _); refine IO_ti (by decide) rfl (by decide) ?_) | ((with_reducible show UO _ _ _ .USub (.int _) _); refine UO_neg_i ?_))
      refine TO_lst (by simp; omega) ?_
      cases ns with
      | nil =>
        show WE _ _ _ _ _ _ _ _
        repeat (first | ((with_reducible show WE _ _ _ _ _ _ (.BinOp _ _ _ _) _); refine WE_binop ?_) | ((with_reducible show WE _ _ _ _ _ _ (.Constant (.float _) _ _) _); refine WE_flt ?_) | ((with_reducible show WE _ _ _ _ _ _ (.Constant (.int _) _ _) _); refine WE_int ?_) | ((with_reducible show WE _ _ _ _ _ _ (.Constant (.bool _) _ _) _); refine WE_bool ?_) | ((with_reducible show WE _ _ _ _ _ _ (.Name _ _) _); first | refine WE_name rfl ?_ | refine WE_name (by assumption) ?_ | refine WE_name (comp_get (by assumption)) ?_) | ((with_reducible show WE _ _ _ _ _ _ (.Tuple _ _ _) _); refine WE_tuple ?_) | ((with_reducible show WE _ _ _ _ _ _ (.List _ _) _); refine WE_list ?_) | ((with_reducible show WE _ _ _ _ _ _ (.Subscript _ (.Slice _ _ none _) _) _); refine WE_cut ?_) | ((with_reducible show WE _ _ _ _ _ _ (.Subscript _ _ _) _); refine WE_item ?_) | ((with_reducible show WE _ _ _ _ _ _ (.UnaryOp _ _ _) _); refine WE_unary ?_) | ((with_reducible show WP _ _ _ _ _ _ (some _) _); refine WP_some ?_) | ((with_reducible show WP _ _ _ _ _ _ none _); refine WP_none ?_) | ((with_reducible show WEs _ _ _ _ _ _ (_ :: _) _); refine WEs_cons ?_) | ((with_reducible show WEs _ _ _ _ _ _ [] _); refine WEs_nil ?_) | ((with_reducible show BO _ _ _ .Mult (.flt _) (.flt _) _); refine BO_mul_ff ?_) | ((with_reducible show BO _ _ _ .Add (.flt _) (.flt _) _); refine BO_add_ff ?_) | ((with_reducible show BO _ _ _ .Sub (.flt _) (.flt _) _); refine BO_sub_ff ?_) | ((with_reducible show BO _ _ _ .Add (.int _) (.int _) _); refine BO_add_ii ?_) | ((with_reducible show BO _ _ _ .Sub (.int _) (.int _) _); refine BO_sub_ii ?_) | ((with_reducible show BO _ _ _ .Mult (.int _) (.int _) _); refine BO_mul_ii (by first | exact mulL (by omega) (by omega) | exact mulR (by omega) (by omega)) ?_) | ((with_reducible show BO _ _ _ .Pow (.int _) (.int _) _); first | refine BO_pow_eq pow40 (by decide) (by decide) ?_ | refine BO_pow_eq pow52 (by decide) (by decide) ?_ | refine BO_pow_eq pow53 (by decide) (by decide) ?_ | refine BO_pow2 (by omega) (by omega) ?_) | ((with_reducible show BO _ _ _ .Mod (.int _) (.int _) _); refine BO_mod_p (by omega) ?_) | ((with_reducible show BO _ _ _ .FloorDiv (.int _) (.int _) _); refine BO_div_p (by omega) (by omega) ?_) | ((with_reducible show BO _ _ _ .Div (.int _) (.int _) _); refine BO_div_s (Rm.handled (by first | assumption | apply_assumption)) (by omega) (by omega) (by omega) ?_) | ((with_reducible show IO _ _ _ (.tup _) (.int (OfNat.ofNat _)) _); refine IO_ti (by decide) rfl (by decide) ?_) | ((with_reducible show UO _ _ _ .USub (.int _) _); refine UO_neg_i ?_))
        exact ⟨rfl, rfl, _, rfl⟩
      | cons x xs =>
        show WE _ _ _ _ _ _ _ _
        repeat (first | ((with_reducible show WE _ _ _ _ _ _ (.BinOp _ _ _ _) _); refine WE_binop ?_) | ((with_reducible show WE _ _ _ _ _ _ (.Constant (.float _) _ _) _); refine WE_flt ?_) | ((with_reducible show WE _ _ _ _ _ _ (.Constant (.int _) _ _) _); refine WE_int ?_) | ((with_reducible show WE _ _ _ _ _ _ (.Constant (.bool _) _ _) _); refine WE_bool ?_) | ((with_reducible show WE _ _ _ _ _ _ (.Name _ _) _); first | refine WE_name rfl ?_ | refine WE_name (by assumption) ?_ | refine WE_name (comp_get (by assumption)) ?_) | ((with_reducible show WE _ _ _ _ _ _ (.Tuple _ _ _) _); refine WE_tuple ?_) | ((with_reducible show WE _ _ _ _ _ _ (.List _ _) _); refine WE_list ?_) | ((with_reducible show WE _ _ _ _ _ _ (.Subscript _ (.Slice _ _ none _) _) _); refine WE_cut ?_) | ((with_reducible show WE _ _ _ _ _ _ (.Subscript _ _ _) _); refine WE_item ?_) | ((with_reducible show WE _ _ _ _ _ _ (.UnaryOp _ _ _) _); refine WE_unary ?_) | ((with_reducible show WP _ _ _ _ _ _ (some _) _); refine WP_some ?_) | ((with_reducible show WP _ _ _ _ _ _ none _); refine WP_none ?_) | ((with_reducible show WEs _ _ _ _ _ _ (_ :: _) _); refine WEs_cons ?_) | ((with_reducible show WEs _ _ _ _ _ _ [] _); refine WEs_nil ?_) | ((with_reducible show BO _ _ _ .Mult (.flt _) (.flt _) _); refine BO_mul_ff ?_) | ((with_reducible show BO _ _ _ .Add (.flt _) (.flt _) _); refine BO_add_ff ?_) | ((with_reducible show BO _ _ _ .Sub (.flt _) (.flt _) _); refine BO_sub_ff ?_) | ((with_reducible show BO _ _ _ .Add (.int _) (.int _) _); refine BO_add_ii ?_) | ((with_reducible show BO _ _ _ .Sub (.int _) (.int _) _); refine BO_sub_ii ?_) | ((with_reducible show BO _ _ _ .Mult (.int _) (.int _) _); refine BO_mul_ii (by first | exact mulL (by omega) (by omega) | exact mulR (by omega) (by omega)) ?_) | ((with_reducible show BO _ _ _ .Pow (.int _) (.int _) _); first | refine BO_pow_eq pow40 (by decide) (by decide) ?_ | refine BO_pow_eq pow52 (by decide) (by decide) ?_ | refine BO_pow_eq pow53 (by decide) (by decide) ?_ | refine BO_pow2 (by omega) (by omega) ?_) | ((with_reducible show BO _ _ _ .Mod (.int _) (.int _) _); refine BO_mod_p (by omega) ?_) | ((with_reducible show BO _ _ _ .FloorDiv (.int _) (.int _) _); refine BO_div_p (by omega) (by omega) ?_) | ((with_reducible show BO _ _ _ .Div (.int _) (.int _) _); refine BO_div_s (Rm.handled (by first | assumption | apply_assumption)) (by omega) (by omega) (by omega) ?_) | ((with_reducible show IO _ _ _ (.tup _) (.int (OfNat.ofNat _)) _); refine IO_ti (by decide) rfl (by decide) ?_) | ((with_reducible show UO _ _ _ .USub (.int _) _); refine UO_neg_i ?_))
        refine IO_li (by decide) rfl (by decide) ?_
        exact ⟨rfl, rfl, _, rfl⟩
    rintro oo σ ⟨rfl, hsc, way, hway⟩
    refine WS_cons ?_
    refine WX_assign (.inl rfl) ?_
    repeat (first | ((with_reducible show WE _ _ _ _ _ _ (.BinOp _ _ _ _) _); refine WE_binop ?_) | ((with_reducible show WE _ _ _ _ _ _ (.Constant (.float _) _ _) _); refine WE_flt ?_) | ((with_reducible show WE _ _ _ _ _ _ (.Constant (.int _) _ _) _); refine WE_int ?_) | ((with_reducible show WE _ _ _ _ _ _ (.Constant (.bool _) _ _) _); refine WE_bool ?_) | ((with_reducible show WE _ _ _ _ _ _ (.Name _ _) _); first | refine WE_name rfl ?_ | refine WE_name (by assumption) ?_ | refine WE_name (comp_get (by assumption)) ?_) | ((with_reducible show WE _ _ _ _ _ _ (.Tuple _ _ _) _); refine WE_tuple ?_) | ((with_reducible show WE _ _ _ _ _ _ (.List _ _) _); refine WE_list ?_) | ((with_reducible show WE _ _ _ _ _ _ (.Subscript _ (.Slice _ _ none _) _) _); refine WE_cut ?_) | ((with_reducible show WE _ _ _ _ _ _ (.Subscript _ _ _) _); refine WE_item ?_) | ((with_reducible show WE _ _ _ _ _ _ (.UnaryOp _ _ _) _); refine WE_unary ?_) | ((with_reducible show WP _ _ _ _ _ _ (some _) _); refine WP_some ?_) | ((with_reducible show WP _ _ _ _ _ _ none _); refine WP_none ?_) | ((with_reducible show WEs _ _ _ _ _ _ (_ :: _) _); refine WEs_cons ?_) | ((with_reducible show WEs _ _ _ _ _ _ [] _); refine WEs_nil ?_) | ((with_reducible show BO _ _ _ .Mult (.flt _) (.flt _) _); refine BO_mul_ff ?_) | ((with_reducible show BO _ _ _ .Add (.flt _) (.flt _) _); refine BO_add_ff ?_) | ((with_reducible show BO _ _ _ .Sub (.flt _) (.flt _) _); refine BO_sub_ff ?_) | ((with_reducible show BO _ _ _ .Add (.int _) (.int _) _); refine BO_add_ii ?_) | ((with_reducible show BO _ _ _ .Sub (.int _) (.int _) _); refine BO_sub_ii ?_) | ((with_reducible show BO _ _ _ .Mult (.int _) (.int _) _); refine BO_mul_ii (by first | exact mulL (by omega) (by omega) | exact mulR (by omega) (by omega)) ?_) | ((with_reducible show BO _ _ _ .Pow (.int _) (.int _) _); first | refine BO_pow_eq pow40 (by decide) (by decide) ?_ | refine BO_pow_eq pow52 (by decide) (by decide) ?_ | refine BO_pow_eq pow53 (by decide) (by decide) ?_ | refine BO_pow2 (by omega) (by omega) ?_) | ((with_reducible show BO _ _ _ .Mod (.int _) (.int _) _); refine BO_mod_p (by omega) ?_) | ((with_reducible show BO _ _ _ .FloorDiv (.int _) (.int _) _); refine BO_div_p (by omega) (by omega) ?_) | ((with_reducible show BO _ _ _ .Div (.int _) (.int _) _); refine BO_div_s (Rm.handled (by first | assumption | apply_assumption)) (by omega) (by omega) (by omega) ?_) | ((with_reducible show IO _ _ _ (.tup _) (.int (OfNat.ofNat _)) _); refine IO_ti (by decide) rfl (by decide) ?_) | ((with_reducible show UO _ _ _ .USub (.int _) _); refine UO_neg_i ?_))
    have ha0 : 1 ≤ (way + 15) % 38 + 1 ∧ (way + 15) % 38 + 1 ≤ 38 := by omega
    generalize (way + 15) % 38 + 1 = a at ha0 ⊢
    refine WS_cons ?_
    refine WX_assign (.inl rfl) ?_
    repeat (first | ((with_reducible show WE _ _ _ _ _ _ (.BinOp _ _ _ _) _); refine WE_binop ?_) | ((with_reducible show WE _ _ _ _ _ _ (.Constant (.float _) _ _) _); refine WE_flt ?_) | ((with_reducible show WE _ _ _ _ _ _ (.Constant (.int _) _ _) _); refine WE_int ?_) | ((with_reducible show WE _ _ _ _ _ _ (.Constant (.bool _) _ _) _); refine WE_bool ?_) | ((with_reducible show WE _ _ _ _ _ _ (.Name _ _) _); first | refine WE_name rfl ?_ | refine WE_name (by assumption) ?_ | refine WE_name (comp_get (by assumption)) ?_) | ((with_reducible show WE _ _ _ _ _ _ (.Tuple _ _ _) _); refine WE_tuple ?_) | ((with_reducible show WE _ _ _ _ _ _ (.List _ _) _); refine WE_list ?_) | ((with_reducible show WE _ _ _ _ _ _ (.Subscript _ (.Slice _ _ none _) _) _); refine WE_cut ?_) | ((with_reducible show WE _ _ _ _ _ _ (.Subscript _ _ _) _); refine WE_item ?_) | ((with_reducible show WE _ _ _ _ _ _ (.UnaryOp _ _ _) _); refine WE_unary ?_) | ((with_reducible show WP _ _ _ _ _ _ (some _) _); refine WP_some ?_) | ((with_reducible show WP _ _ _ _ _ _ none _); refine WP_none ?_) | ((with_reducible show WEs _ _ _ _ _ _ (_ :: _) _); refine WEs_cons ?_) | ((with_reducible show WEs _ _ _ _ _ _ [] _); refine WEs_nil ?_) | ((with_reducible show BO _ _ _ .Mult (.flt _) (.flt _) _); refine BO_mul_ff ?_) | ((with_reducible show BO _ _ _ .Add (.flt _) (.flt _) _); refine BO_add_ff ?_) | ((with_reducible show BO _ _ _ .Sub (.flt _) (.flt _) _); refine BO_sub_ff ?_) | ((with_reducible show BO _ _ _ .Add (.int _) (.int _) _); refine BO_add_ii ?_) | ((with_reducible show BO _ _ _ .Sub (.int _) (.int _) _); refine BO_sub_ii ?_) | ((with_reducible show BO _ _ _ .Mult (.int _) (.int _) _); refine BO_mul_ii (by first | exact mulL (by omega) (by omega) | exact mulR (by omega) (by omega)) ?_) | ((with_reducible show BO _ _ _ .Pow (.int _) (.int _) _); first | refine BO_pow_eq pow40 (by decide) (by decide) ?_ | refine BO_pow_eq pow52 (by decide) (by decide) ?_ | refine BO_pow_eq pow53 (by decide) (by decide) ?_ | refine BO_pow2 (by omega) (by omega) ?_) | ((with_reducible show BO _ _ _ .Mod (.int _) (.int _) _); refine BO_mod_p (by omega) ?_) | ((with_reducible show BO _ _ _ .FloorDiv (.int _) (.int _) _); refine BO_div_p (by omega) (by omega) ?_) | ((with_reducible show BO _ _ _ .Div (.int _) (.int _) _); refine BO_div_s (Rm.handled (by first | assumption | apply_assumption)) (by omega) (by omega) (by omega) ?_) | ((with_reducible show IO _ _ _ (.tup _) (.int (OfNat.ofNat _)) _); refine IO_ti (by decide) rfl (by decide) ?_) | ((with_reducible show UO _ _ _ .USub (.int _) _); refine UO_neg_i ?_))
    have hb0 : 1 ≤ (way / 38 + 15) % (39 - a) + 1 ∧ (way / 38 + 15) % (39 - a) + 1 ≤ 39 - a := by
      have h0 := Int.emod_nonneg (way / 38 + 15) (show 39 - a ≠ 0 by omega)
      have h1 := Int.emod_lt_of_pos (way / 38 + 15) (show 0 < 39 - a by omega)
      omega
    generalize (way / 38 + 15) % (39 - a) + 1 = b at hb0 ⊢
    have habc : a.toNat + b.toNat + (40 - a - b).toNat = 40 := by omega
    have han : 1 ≤ a.toNat := by omega
    have hbn : 1 ≤ b.toNat := by omega
    have hcn : 1 ≤ (40 - a - b).toNat := by omega
    refine WS_cons ?_
    refine WX.mono (Q := fun oo σ => oo = .next ∧ σ "script" = some (.dat (.lst (ns.map D.int))) ∧ σ "n" = some (.dat (.int (2 ^ a.toNat))) ∧ σ "m" = some (.dat (.int (2 ^ b.toNat))) ∧ σ "k" = some (.dat (.int (2 ^ (40 - a - b).toNat)))) ?_ ?_
    · refine WX_assign_swap [Str.ofString "n", Str.ofString "m", Str.ofString "k"] (hA _).handled (by intro x hx; simp only [List.mem_cons, List.not_mem_nil, or_false] at hx; rcases hx with rfl | rfl | rfl <;> exact .inl rfl) ?_
      repeat (first | ((with_reducible show WE _ _ _ _ _ _ (.BinOp _ _ _ _) _); refine WE_binop ?_) | ((with_reducible show WE _ _ _ _ _ _ (.Constant (.float _) _ _) _); refine WE_flt ?_) | ((with_reducible show WE _ _ _ _ _ _ (.Constant (.int _) _ _) _); refine WE_int ?_) | ((with_reducible show WE _ _ _ _ _ _ (.Constant (.bool _) _ _) _); refine WE_bool ?_) | ((with_reducible show WE _ _ _ _ _ _ (.Name _ _) _); first | refine WE_name rfl ?_ | refine WE_name (by assumption) ?_ | refine WE_name (comp_get (by assumption)) ?_) | ((with_reducible show WE _ _ _ _ _ _ (.Tuple _ _ _) _); refine WE_tuple ?_) | ((with_reducible show WE _ _ _ _ _ _ (.List _ _) _); refine WE_list ?_) | ((with_reducible show WE _ _ _ _ _ _ (.Subscript _ (.Slice _ _ none _) _) _); refine WE_cut ?_) | ((with_reducible show WE _ _ _ _ _ _ (.Subscript _ _ _) _); refine WE_item ?_) | ((with_reducible show WE _ _ _ _ _ _ (.UnaryOp _ _ _) _); refine WE_unary ?_) | ((with_reducible show WP _ _ _ _ _ _ (some _) _); refine WP_some ?_) | ((with_reducible show WP _ _ _ _ _ _ none _); refine WP_none ?_) | ((with_reducible show WEs _ _ _ _ _ _ (_ :: _) _); refine WEs_cons ?_) | ((with_reducible show WEs _ _ _ _ _ _ [] _); refine WEs_nil ?_) | ((with_reducible show BO _ _ _ .Mult (.flt _) (.flt _) _); refine BO_mul_ff ?_) | ((with_reducible show BO _ _ _ .Add (.flt _) (.flt _) _); refine BO_add_ff ?_) | ((with_reducible show BO _ _ _ .Sub (.flt _) (.flt _) _); refine BO_sub_ff ?_) | ((with_reducible show BO _ _ _ .Add (.int _) (.int _) _); refine BO_add_ii ?_) | ((with_reducible show BO _ _ _ .Sub (.int _) (.int _) _); refine BO_sub_ii ?_) | ((with_reducible show BO _ _ _ .Mult (.int _) (.int _) _); refine BO_mul_ii (by first | exact mulL (by omega) (by omega) | exact mulR (by omega) (by omega)) ?_) | ((with_reducible show BO _ _ _ .Pow (.int _) (.int _) _); first | refine BO_pow_eq pow40 (by decide) (by decide) ?_ | refine BO_pow_eq pow52 (by decide) (by decide) ?_ | refine BO_pow_eq pow53 (by decide) (by decide) ?_ | refine BO_pow2 (by omega) (by omega) ?_) | ((with_reducible show BO _ _ _ .Mod (.int _) (.int _) _); refine BO_mod_p (by omega) ?_) | ((with_reducible show BO _ _ _ .FloorDiv (.int _) (.int _) _); refine BO_div_p (by omega) (by omega) ?_) | ((with_reducible show BO _ _ _ .Div (.int _) (.int _) _); refine BO_div_s (Rm.handled (by first | assumption | apply_assumption)) (by omega) (by omega) (by omega) ?_) | ((with_reducible show IO _ _ _ (.tup _) (.int (OfNat.ofNat _)) _); refine IO_ti (by decide) rfl (by decide) ?_) | ((with_reducible show UO _ _ _ .USub (.int _) _); refine UO_neg_i ?_))
      refine ⟨by simp, _, rfl, rfl, ?_⟩
      exact ⟨rfl, hsc, rfl, rfl, rfl⟩
    generalize a.toNat = an at habc han ⊢
    generalize b.toNat = bn at habc hbn ⊢
    generalize (40 - a - b).toNat = cn at habc hcn ⊢
    rintro oo σ ⟨rfl, k1, k2, k3, k4⟩
    have pa := pow_bd8 han (by omega)
    have pb := pow_bd8 hbn (by omega)
    have pc := pow_bd8 hcn (by omega)
    refine WS_cons ?_
    refine WX_for rfl (WI_range GB (hA _).handled rfl nrange ?_) (fun _ => fold_cal)
    repeat (first | ((with_reducible show WE _ _ _ _ _ _ (.BinOp _ _ _ _) _); refine WE_binop ?_) | ((with_reducible show WE _ _ _ _ _ _ (.Constant (.float _) _ _) _); refine WE_flt ?_) | ((with_reducible show WE _ _ _ _ _ _ (.Constant (.int _) _ _) _); refine WE_int ?_) | ((with_reducible show WE _ _ _ _ _ _ (.Constant (.bool _) _ _) _); refine WE_bool ?_) | ((with_reducible show WE _ _ _ _ _ _ (.Name _ _) _); first | refine WE_name rfl ?_ | refine WE_name (by assumption) ?_ | refine WE_name (comp_get (by assumption)) ?_) | ((with_reducible show WE _ _ _ _ _ _ (.Tuple _ _ _) _); refine WE_tuple ?_) | ((with_reducible show WE _ _ _ _ _ _ (.List _ _) _); refine WE_list ?_) | ((with_reducible show WE _ _ _ _ _ _ (.Subscript _ (.Slice _ _ none _) _) _); refine WE_cut ?_) | ((with_reducible show WE _ _ _ _ _ _ (.Subscript _ _ _) _); refine WE_item ?_) | ((with_reducible show WE _ _ _ _ _ _ (.UnaryOp _ _ _) _); refine WE_unary ?_) | ((with_reducible show WP _ _ _ _ _ _ (some _) _); refine WP_some ?_) | ((with_reducible show WP _ _ _ _ _ _ none _); refine WP_none ?_) | ((with_reducible show WEs _ _ _ _ _ _ (_ :: _) _); refine WEs_cons ?_) | ((with_reducible show WEs _ _ _ _ _ _ [] _); refine WEs_nil ?_) | ((with_reducible show BO _ _ _ .Mult (.flt _) (.flt _) _); refine BO_mul_ff ?_) | ((with_reducible show BO _ _ _ .Add (.flt _) (.flt _) _); refine BO_add_ff ?_) | ((with_reducible show BO _ _ _ .Sub (.flt _) (.flt _) _); refine BO_sub_ff ?_) | ((with_reducible show BO _ _ _ .Add (.int _) (.int _) _); refine BO_add_ii ?_) | ((with_reducible show BO _ _ _ .Sub (.int _) (.int _) _); refine BO_sub_ii ?_) | ((with_reducible show BO _ _ _ .Mult (.int _) (.int _) _); refine BO_mul_ii (by first | exact mulL (by omega) (by omega) | exact mulR (by omega) (by omega)) ?_) | ((with_reducible show BO _ _ _ .Pow (.int _) (.int _) _); first | refine BO_pow_eq pow40 (by decide) (by decide) ?_ | refine BO_pow_eq pow52 (by decide) (by decide) ?_ | refine BO_pow_eq pow53 (by decide) (by decide) ?_ | refine BO_pow2 (by omega) (by omega) ?_) | ((with_reducible show BO _ _ _ .Mod (.int _) (.int _) _); refine BO_mod_p (by omega) ?_) | ((with_reducible show BO _ _ _ .FloorDiv (.int _) (.int _) _); refine BO_div_p (by omega) (by omega) ?_) | ((with_reducible show BO _ _ _ .Div (.int _) (.int _) _); refine BO_div_s (Rm.handled (by first | assumption | apply_assumption)) (by omega) (by omega) (by omega) ?_) | ((with_reducible show IO _ _ _ (.tup _) (.int (OfNat.ofNat _)) _); refine IO_ti (by decide) rfl (by decide) ?_) | ((with_reducible show UO _ _ _ .USub (.int _) _); refine UO_neg_i ?_))
    refine WE_call_builtin GB rfl nmax (by with_unfolding_all rfl) ?_
    repeat (first | ((with_reducible show WE _ _ _ _ _ _ (.BinOp _ _ _ _) _); refine WE_binop ?_) | ((with_reducible show WE _ _ _ _ _ _ (.Constant (.float _) _ _) _); refine WE_flt ?_) | ((with_reducible show WE _ _ _ _ _ _ (.Constant (.int _) _ _) _); refine WE_int ?_) | ((with_reducible show WE _ _ _ _ _ _ (.Constant (.bool _) _ _) _); refine WE_bool ?_) | ((with_reducible show WE _ _ _ _ _ _ (.Name _ _) _); first | refine WE_name rfl ?_ | refine WE_name (by assumption) ?_ | refine WE_name (comp_get (by assumption)) ?_) | ((with_reducible show WE _ _ _ _ _ _ (.Tuple _ _ _) _); refine WE_tuple ?_) | ((with_reducible show WE _ _ _ _ _ _ (.List _ _) _); refine WE_list ?_) | ((with_reducible show WE _ _ _ _ _ _ (.Subscript _ (.Slice _ _ none _) _) _); refine WE_cut ?_) | ((with_reducible show WE _ _ _ _ _ _ (.Subscript _ _ _) _); refine WE_item ?_) | ((with_reducible show WE _ _ _ _ _ _ (.UnaryOp _ _ _) _); refine WE_unary ?_) | ((with_reducible show WP _ _ _ _ _ _ (some _) _); refine WP_some ?_) | ((with_reducible show WP _ _ _ _ _ _ none _); refine WP_none ?_) | ((with_reducible show WEs _ _ _ _ _ _ (_ :: _) _); refine WEs_cons ?_) | ((with_reducible show WEs _ _ _ _ _ _ [] _); refine WEs_nil ?_) | ((with_reducible show BO _ _ _ .Mult (.flt _) (.flt _) _); refine BO_mul_ff ?_) | ((with_reducible show BO _ _ _ .Add (.flt _) (.flt _) _); refine BO_add_ff ?_) | ((with_reducible show BO _ _ _ .Sub (.flt _) (.flt _) _); refine BO_sub_ff ?_) | ((with_reducible show BO _ _ _ .Add (.int _) (.int _) _); refine BO_add_ii ?_) | ((with_reducible show BO _ _ _ .Sub (.int _) (.int _) _); refine BO_sub_ii ?_) | ((with_reducible show BO _ _ _ .Mult (.int _) (.int _) _); refine BO_mul_ii (by first | exact mulL (by omega) (by omega) | exact mulR (by omega) (by omega)) ?_) | ((with_reducible show BO _ _ _ .Pow (.int _) (.int _) _); first | refine BO_pow_eq pow40 (by decide) (by decide) ?_ | refine BO_pow_eq pow52 (by decide) (by decide) ?_ | refine BO_pow_eq pow53 (by decide) (by decide) ?_ | refine BO_pow2 (by omega) (by omega) ?_) | ((with_reducible show BO _ _ _ .Mod (.int _) (.int _) _); refine BO_mod_p (by omega) ?_) | ((with_reducible show BO _ _ _ .FloorDiv (.int _) (.int _) _); refine BO_div_p (by omega) (by omega) ?_) | ((with_reducible show BO _ _ _ .Div (.int _) (.int _) _); refine BO_div_s (Rm.handled (by first | assumption | apply_assumption)) (by omega) (by omega) (by omega) ?_) | ((with_reducible show IO _ _ _ (.tup _) (.int (OfNat.ofNat _)) _); refine IO_ti (by decide) rfl (by decide) ?_) | ((with_reducible show UO _ _ _ .USub (.int _) _); refine UO_neg_i ?_))
    refine WE_call_builtin GB rfl nlen (by with_unfolding_all rfl) ?_
    repeat (first | ((with_reducible show WE _ _ _ _ _ _ (.BinOp _ _ _ _) _); refine WE_binop ?_) | ((with_reducible show WE _ _ _ _ _ _ (.Constant (.float _) _ _) _); refine WE_flt ?_) | ((with_reducible show WE _ _ _ _ _ _ (.Constant (.int _) _ _) _); refine WE_int ?_) | ((with_reducible show WE _ _ _ _ _ _ (.Constant (.bool _) _ _) _); refine WE_bool ?_) | ((with_reducible show WE _ _ _ _ _ _ (.Name _ _) _); first | refine WE_name rfl ?_ | refine WE_name (by assumption) ?_ | refine WE_name (comp_get (by assumption)) ?_) | ((with_reducible show WE _ _ _ _ _ _ (.Tuple _ _ _) _); refine WE_tuple ?_) | ((with_reducible show WE _ _ _ _ _ _ (.List _ _) _); refine WE_list ?_) | ((with_reducible show WE _ _ _ _ _ _ (.Subscript _ (.Slice _ _ none _) _) _); refine WE_cut ?_) | ((with_reducible show WE _ _ _ _ _ _ (.Subscript _ _ _) _); refine WE_item ?_) | ((with_reducible show WE _ _ _ _ _ _ (.UnaryOp _ _ _) _); refine WE_unary ?_) | ((with_reducible show WP _ _ _ _ _ _ (some _) _); refine WP_some ?_) | ((with_reducible show WP _ _ _ _ _ _ none _); refine WP_none ?_) | ((with_reducible show WEs _ _ _ _ _ _ (_ :: _) _); refine WEs_cons ?_) | ((with_reducible show WEs _ _ _ _ _ _ [] _); refine WEs_nil ?_) | ((with_reducible show BO _ _ _ .Mult (.flt _) (.flt _) _); refine BO_mul_ff ?_) | ((with_reducible show BO _ _ _ .Add (.flt _) (.flt _) _); refine BO_add_ff ?_) | ((with_reducible show BO _ _ _ .Sub (.flt _) (.flt _) _); refine BO_sub_ff ?_) | ((with_reducible show BO _ _ _ .Add (.int _) (.int _) _); refine BO_add_ii ?_) | ((with_reducible show BO _ _ _ .Sub (.int _) (.int _) _); refine BO_sub_ii ?_) | ((with_reducible show BO _ _ _ .Mult (.int _) (.int _) _); refine BO_mul_ii (by first | exact mulL (by omega) (by omega) | exact mulR (by omega) (by omega)) ?_) | ((with_reducible show BO _ _ _ .Pow (.int _) (.int _) _); first | refine BO_pow_eq pow40 (by decide) (by decide) ?_ | refine BO_pow_eq pow52 (by decide) (by decide) ?_ | refine BO_pow_eq pow53 (by decide) (by decide) ?_ | refine BO_pow2 (by omega) (by omega) ?_) | ((with_reducible show BO _ _ _ .Mod (.int _) (.int _) _); refine BO_mod_p (by omega) ?_) | ((with_reducible show BO _ _ _ .FloorDiv (.int _) (.int _) _); refine BO_div_p (by omega) (by omega) ?_) | ((with_reducible show BO _ _ _ .Div (.int _) (.int _) _); refine BO_div_s (Rm.handled (by first | assumption | apply_assumption)) (by omega) (by omega) (by omega) ?_) | ((with_reducible show IO _ _ _ (.tup _) (.int (OfNat.ofNat _)) _); refine IO_ti (by decide) rfl (by decide) ?_) | ((with_reducible show UO _ _ _ .USub (.int _) _); refine UO_neg_i ?_))
    refine WC_len_l (by simp; omega) ?_
    repeat (first | ((with_reducible show WE _ _ _ _ _ _ (.BinOp _ _ _ _) _); refine WE_binop ?_) | ((with_reducible show WE _ _ _ _ _ _ (.Constant (.float _) _ _) _); refine WE_flt ?_) | ((with_reducible show WE _ _ _ _ _ _ (.Constant (.int _) _ _) _); refine WE_int ?_) | ((with_reducible show WE _ _ _ _ _ _ (.Constant (.bool _) _ _) _); refine WE_bool ?_) | ((with_reducible show WE _ _ _ _ _ _ (.Name _ _) _); first | refine WE_name rfl ?_ | refine WE_name (by assumption) ?_ | refine WE_name (comp_get (by assumption)) ?_) | ((with_reducible show WE _ _ _ _ _ _ (.Tuple _ _ _) _); refine WE_tuple ?_) | ((with_reducible show WE _ _ _ _ _ _ (.List _ _) _); refine WE_list ?_) | ((with_reducible show WE _ _ _ _ _ _ (.Subscript _ (.Slice _ _ none _) _) _); refine WE_cut ?_) | ((with_reducible show WE _ _ _ _ _ _ (.Subscript _ _ _) _); refine WE_item ?_) | ((with_reducible show WE _ _ _ _ _ _ (.UnaryOp _ _ _) _); refine WE_unary ?_) | ((with_reducible show WP _ _ _ _ _ _ (some _) _); refine WP_some ?_) | ((with_reducible show WP _ _ _ _ _ _ none _); refine WP_none ?_) | ((with_reducible show WEs _ _ _ _ _ _ (_ :: _) _); refine WEs_cons ?_) | ((with_reducible show WEs _ _ _ _ _ _ [] _); refine WEs_nil ?_) | ((with_reducible show BO _ _ _ .Mult (.flt _) (.flt _) _); refine BO_mul_ff ?_) | ((with_reducible show BO _ _ _ .Add (.flt _) (.flt _) _); refine BO_add_ff ?_) | ((with_reducible show BO _ _ _ .Sub (.flt _) (.flt _) _); refine BO_sub_ff ?_) | ((with_reducible show BO _ _ _ .Add (.int _) (.int _) _); refine BO_add_ii ?_) | ((with_reducible show BO _ _ _ .Sub (.int _) (.int _) _); refine BO_sub_ii ?_) | ((with_reducible show BO _ _ _ .Mult (.int _) (.int _) _); refine BO_mul_ii (by first | exact mulL (by omega) (by omega) | exact mulR (by omega) (by omega)) ?_) | ((with_reducible show BO _ _ _ .Pow (.int _) (.int _) _); first | refine BO_pow_eq pow40 (by decide) (by decide) ?_ | refine BO_pow_eq pow52 (by decide) (by decide) ?_ | refine BO_pow_eq pow53 (by decide) (by decide) ?_ | refine BO_pow2 (by omega) (by omega) ?_) | ((with_reducible show BO _ _ _ .Mod (.int _) (.int _) _); refine BO_mod_p (by omega) ?_) | ((with_reducible show BO _ _ _ .FloorDiv (.int _) (.int _) _); refine BO_div_p (by omega) (by omega) ?_) | ((with_reducible show BO _ _ _ .Div (.int _) (.int _) _); refine BO_div_s (Rm.handled (by first | assumption | apply_assumption)) (by omega) (by omega) (by omega) ?_) | ((with_reducible show IO _ _ _ (.tup _) (.int (OfNat.ofNat _)) _); refine IO_ti (by decide) rfl (by decide) ?_) | ((with_reducible show UO _ _ _ .USub (.int _) _); refine UO_neg_i ?_))
    refine WC_max_ii (hA _).handled ?_
    repeat (first | ((with_reducible show WE _ _ _ _ _ _ (.BinOp _ _ _ _) _); refine WE_binop ?_) | ((with_reducible show WE _ _ _ _ _ _ (.Constant (.float _) _ _) _); refine WE_flt ?_) | ((with_reducible show WE _ _ _ _ _ _ (.Constant (.int _) _ _) _); refine WE_int ?_) | ((with_reducible show WE _ _ _ _ _ _ (.Constant (.bool _) _ _) _); refine WE_bool ?_) | ((with_reducible show WE _ _ _ _ _ _ (.Name _ _) _); first | refine WE_name rfl ?_ | refine WE_name (by assumption) ?_ | refine WE_name (comp_get (by assumption)) ?_) | ((with_reducible show WE _ _ _ _ _ _ (.Tuple _ _ _) _); refine WE_tuple ?_) | ((with_reducible show WE _ _ _ _ _ _ (.List _ _) _); refine WE_list ?_) | ((with_reducible show WE _ _ _ _ _ _ (.Subscript _ (.Slice _ _ none _) _) _); refine WE_cut ?_) | ((with_reducible show WE _ _ _ _ _ _ (.Subscript _ _ _) _); refine WE_item ?_) | ((with_reducible show WE _ _ _ _ _ _ (.UnaryOp _ _ _) _); refine WE_unary ?_) | ((with_reducible show WP _ _ _ _ _ _ (some _) _); refine WP_some ?_) | ((with_reducible show WP _ _ _ _ _ _ none _); refine WP_none ?_) | ((with_reducible show WEs _ _ _ _ _ _ (_ :: _) _); refine WEs_cons ?_) | ((with_reducible show WEs _ _ _ _ _ _ [] _); refine WEs_nil ?_) | ((with_reducible show BO _ _ _ .Mult (.flt _) (.flt _) _); refine BO_mul_ff ?_) | ((with_reducible show BO _ _ _ .Add (.flt _) (.flt _) _); refine BO_add_ff ?_) | ((with_reducible show BO _ _ _ .Sub (.flt _) (.flt _) _); refine BO_sub_ff ?_) | ((with_reducible show BO _ _ _ .Add (.int _) (.int _) _); refine BO_add_ii ?_) | ((with_reducible show BO _ _ _ .Sub (.int _) (.int _) _); refine BO_sub_ii ?_) | ((with_reducible show BO _ _ _ .Mult (.int _) (.int _) _); refine BO_mul_ii (by first | exact mulL (by omega) (by omega) | exact mulR (by omega) (by omega)) ?_) | ((with_reducible show BO _ _ _ .Pow (.int _) (.int _) _); first | refine BO_pow_eq pow40 (by decide) (by decide) ?_ | refine BO_pow_eq pow52 (by decide) (by decide) ?_ | refine BO_pow_eq pow53 (by decide) (by decide) ?_ | refine BO_pow2 (by omega) (by omega) ?_) | ((with_reducible show BO _ _ _ .Mod (.int _) (.int _) _); refine BO_mod_p (by omega) ?_) | ((with_reducible show BO _ _ _ .FloorDiv (.int _) (.int _) _); refine BO_div_p (by omega) (by omega) ?_) | ((with_reducible show BO _ _ _ .Div (.int _) (.int _) _); refine BO_div_s (Rm.handled (by first | assumption | apply_assumption)) (by omega) (by omega) (by omega) ?_) | ((with_reducible show IO _ _ _ (.tup _) (.int (OfNat.ofNat _)) _); refine IO_ti (by decide) rfl (by decide) ?_) | ((with_reducible show UO _ _ _ .USub (.int _) _); refine UO_neg_i ?_))
    refine ⟨1, _, 3, .inr (.inr rfl), by decide, by simp; omega, by decide, ?_⟩
    refine LoopP_all (fun i σ => σ "script" = some (.dat (.lst (ns.map D.int))) ∧ σ "n" = some (.dat (.int (2 ^ an))) ∧ σ "m" = some (.dat (.int (2 ^ bn))) ∧ σ "k" = some (.dat (.int (2 ^ cn)))) ?_ ⟨k1, k2, k3, k4⟩ ?_
    · clear k1 k2 k3 k4
      rintro i d σ hd ⟨k1, k2, k3, k4⟩
      obtain ⟨rfl, hi⟩ := rangeD_get hd
      clear hd hi
      have hat : 0 ≤ 1 + (i : Int) * 3 := by omega
      generalize 1 + (i : Int) * 3 = pl at hat ⊢
      refine ⟨_, WA_name (.inl rfl), ?_⟩
      refine WS_cons ?_
      refine WX_assign (.inl rfl) ?_
      repeat (first | ((with_reducible show WE _ _ _ _ _ _ (.BinOp _ _ _ _) _); refine WE_binop ?_) | ((with_reducible show WE _ _ _ _ _ _ (.Constant (.float _) _ _) _); refine WE_flt ?_) | ((with_reducible show WE _ _ _ _ _ _ (.Constant (.int _) _ _) _); refine WE_int ?_) | ((with_reducible show WE _ _ _ _ _ _ (.Constant (.bool _) _ _) _); refine WE_bool ?_) | ((with_reducible show WE _ _ _ _ _ _ (.Name _ _) _); first | refine WE_name rfl ?_ | refine WE_name (by assumption) ?_ | refine WE_name (comp_get (by assumption)) ?_) | ((with_reducible show WE _ _ _ _ _ _ (.Tuple _ _ _) _); refine WE_tuple ?_) | ((with_reducible show WE _ _ _ _ _ _ (.List _ _) _); refine WE_list ?_) | ((with_reducible show WE _ _ _ _ _ _ (.Subscript _ (.Slice _ _ none _) _) _); refine WE_cut ?_) | ((with_reducible show WE _ _ _ _ _ _ (.Subscript _ _ _) _); refine WE_item ?_) | ((with_reducible show WE _ _ _ _ _ _ (.UnaryOp _ _ _) _); refine WE_unary ?_) | ((with_reducible show WP _ _ _ _ _ _ (some _) _); refine WP_some ?_) | ((with_reducible show WP _ _ _ _ _ _ none _); refine WP_none ?_) | ((with_reducible show WEs _ _ _ _ _ _ (_ :: _) _); refine WEs_cons ?_) | ((with_reducible show WEs _ _ _ _ _ _ [] _); refine WEs_nil ?_) | ((with_reducible show BO _ _ _ .Mult (.flt _) (.flt _) _); refine BO_mul_ff ?_) | ((with_reducible show BO _ _ _ .Add (.flt _) (.flt _) _); refine BO_add_ff ?_) | ((with_reducible show BO _ _ _ .Sub (.flt _) (.flt _) _); refine BO_sub_ff ?_) | ((with_reducible show BO _ _ _ .Add (.int _) (.int _) _); refine BO_add_ii ?_) | ((with_reducible show BO _ _ _ .Sub (.int _) (.int _) _); refine BO_sub_ii ?_) | ((with_reducible show BO _ _ _ .Mult (.int _) (.int _) _); refine BO_mul_ii (by first | exact mulL (by omega) (by omega) | exact mulR (by omega) (by omega)) ?_) | ((with_reducible show BO _ _ _ .Pow (.int _) (.int _) _); first | refine BO_pow_eq pow40 (by decide) (by decide) ?_ | refine BO_pow_eq pow52 (by decide) (by decide) ?_ | refine BO_pow_eq pow53 (by decide) (by decide) ?_ | refine BO_pow2 (by omega) (by omega) ?_) | ((with_reducible show BO _ _ _ .Mod (.int _) (.int _) _); refine BO_mod_p (by omega) ?_) | ((with_reducible show BO _ _ _ .FloorDiv (.int _) (.int _) _); refine BO_div_p (by omega) (by omega) ?_) | ((with_reducible show BO _ _ _ .Div (.int _) (.int _) _); refine BO_div_s (Rm.handled (by first | assumption | apply_assumption)) (by omega) (by omega) (by omega) ?_) | ((with_reducible show IO _ _ _ (.tup _) (.int (OfNat.ofNat _)) _); refine IO_ti (by decide) rfl (by decide) ?_) | ((with_reducible show UO _ _ _ .USub (.int _) _); refine UO_neg_i ?_))
      refine ⟨_, rfl, ?_⟩
      repeat (first | ((with_reducible show WE _ _ _ _ _ _ (.BinOp _ _ _ _) _); refine WE_binop ?_) | ((with_reducible show WE _ _ _ _ _ _ (.Constant (.float _) _ _) _); refine WE_flt ?_) | ((with_reducible show WE _ _ _ _ _ _ (.Constant (.int _) _ _) _); refine WE_int ?_) | ((with_reducible show WE _ _ _ _ _ _ (.Constant (.bool _) _ _) _); refine WE_bool ?_) | ((with_reducible show WE _ _ _ _ _ _ (.Name _ _) _); first | refine WE_name rfl ?_ | refine WE_name (by assumption) ?_ | refine WE_name (comp_get (by assumption)) ?_) | ((with_reducible show WE _ _ _ _ _ _ (.Tuple _ _ _) _); refine WE_tuple ?_) | ((with_reducible show WE _ _ _ _ _ _ (.List _ _) _); refine WE_list ?_) | ((with_reducible show WE _ _ _ _ _ _ (.Subscript _ (.Slice _ _ none _) _) _); refine WE_cut ?_) | ((with_reducible show WE _ _ _ _ _ _ (.Subscript _ _ _) _); refine WE_item ?_) | ((with_reducible show WE _ _ _ _ _ _ (.UnaryOp _ _ _) _); refine WE_unary ?_) | ((with_reducible show WP _ _ _ _ _ _ (some _) _); refine WP_some ?_) | ((with_reducible show WP _ _ _ _ _ _ none _); refine WP_none ?_) | ((with_reducible show WEs _ _ _ _ _ _ (_ :: _) _); refine WEs_cons ?_) | ((with_reducible show WEs _ _ _ _ _ _ [] _); refine WEs_nil ?_) | ((with_reducible show BO _ _ _ .Mult (.flt _) (.flt _) _); refine BO_mul_ff ?_) | ((with_reducible show BO _ _ _ .Add (.flt _) (.flt _) _); refine BO_add_ff ?_) | ((with_reducible show BO _ _ _ .Sub (.flt _) (.flt _) _); refine BO_sub_ff ?_) | ((with_reducible show BO _ _ _ .Add (.int _) (.int _) _); refine BO_add_ii ?_) | ((with_reducible show BO _ _ _ .Sub (.int _) (.int _) _); refine BO_sub_ii ?_) | ((with_reducible show BO _ _ _ .Mult (.int _) (.int _) _); refine BO_mul_ii (by first | exact mulL (by omega) (by omega) | exact mulR (by omega) (by omega)) ?_) | ((with_reducible show BO _ _ _ .Pow (.int _) (.int _) _); first | refine BO_pow_eq pow40 (by decide) (by decide) ?_ | refine BO_pow_eq pow52 (by decide) (by decide) ?_ | refine BO_pow_eq pow53 (by decide) (by decide) ?_ | refine BO_pow2 (by omega) (by omega) ?_) | ((with_reducible show BO _ _ _ .Mod (.int _) (.int _) _); refine BO_mod_p (by omega) ?_) | ((with_reducible show BO _ _ _ .FloorDiv (.int _) (.int _) _); refine BO_div_p (by omega) (by omega) ?_) | ((with_reducible show BO _ _ _ .Div (.int _) (.int _) _); refine BO_div_s (Rm.handled (by first | assumption | apply_assumption)) (by omega) (by omega) (by omega) ?_) | ((with_reducible show IO _ _ _ (.tup _) (.int (OfNat.ofNat _)) _); refine IO_ti (by decide) rfl (by decide) ?_) | ((with_reducible show UO _ _ _ .USub (.int _) _); refine UO_neg_i ?_))
      refine ⟨_, rfl, _, rfl, by simp; omega, ?_⟩
      rw [cut_map]
      have hms := cut_len3 ns pl hat
      generalize cut ns (some pl) (some (pl + 3)) = ms at hms ⊢
      obtain ⟨x, y, z, hxyz⟩ := three8 ms hms (2 ^ cn / 2)
      refine WS_cons ?_
      refine WX_assign_tuple (hA _).handled rfl (by intro x hx; simp only [List.mem_cons, List.not_mem_nil, or_false] at hx; rcases hx with rfl | rfl | rfl <;> exact .inl rfl) ?_
      repeat (first | ((with_reducible show WE _ _ _ _ _ _ (.BinOp _ _ _ _) _); refine WE_binop ?_) | ((with_reducible show WE _ _ _ _ _ _ (.Constant (.float _) _ _) _); refine WE_flt ?_) | ((with_reducible show WE _ _ _ _ _ _ (.Constant (.int _) _ _) _); refine WE_int ?_) | ((with_reducible show WE _ _ _ _ _ _ (.Constant (.bool _) _ _) _); refine WE_bool ?_) | ((with_reducible show WE _ _ _ _ _ _ (.Name _ _) _); first | refine WE_name rfl ?_ | refine WE_name (by assumption) ?_ | refine WE_name (comp_get (by assumption)) ?_) | ((with_reducible show WE _ _ _ _ _ _ (.Tuple _ _ _) _); refine WE_tuple ?_) | ((with_reducible show WE _ _ _ _ _ _ (.List _ _) _); refine WE_list ?_) | ((with_reducible show WE _ _ _ _ _ _ (.Subscript _ (.Slice _ _ none _) _) _); refine WE_cut ?_) | ((with_reducible show WE _ _ _ _ _ _ (.Subscript _ _ _) _); refine WE_item ?_) | ((with_reducible show WE _ _ _ _ _ _ (.UnaryOp _ _ _) _); refine WE_unary ?_) | ((with_reducible show WP _ _ _ _ _ _ (some _) _); refine WP_some ?_) | ((with_reducible show WP _ _ _ _ _ _ none _); refine WP_none ?_) | ((with_reducible show WEs _ _ _ _ _ _ (_ :: _) _); refine WEs_cons ?_) | ((with_reducible show WEs _ _ _ _ _ _ [] _); refine WEs_nil ?_) | ((with_reducible show BO _ _ _ .Mult (.flt _) (.flt _) _); refine BO_mul_ff ?_) | ((with_reducible show BO _ _ _ .Add (.flt _) (.flt _) _); refine BO_add_ff ?_) | ((with_reducible show BO _ _ _ .Sub (.flt _) (.flt _) _); refine BO_sub_ff ?_) | ((with_reducible show BO _ _ _ .Add (.int _) (.int _) _); refine BO_add_ii ?_) | ((with_reducible show BO _ _ _ .Sub (.int _) (.int _) _); refine BO_sub_ii ?_) | ((with_reducible show BO _ _ _ .Mult (.int _) (.int _) _); refine BO_mul_ii (by first | exact mulL (by omega) (by omega) | exact mulR (by omega) (by omega)) ?_) | ((with_reducible show BO _ _ _ .Pow (.int _) (.int _) _); first | refine BO_pow_eq pow40 (by decide) (by decide) ?_ | refine BO_pow_eq pow52 (by decide) (by decide) ?_ | refine BO_pow_eq pow53 (by decide) (by decide) ?_ | refine BO_pow2 (by omega) (by omega) ?_) | ((with_reducible show BO _ _ _ .Mod (.int _) (.int _) _); refine BO_mod_p (by omega) ?_) | ((with_reducible show BO _ _ _ .FloorDiv (.int _) (.int _) _); refine BO_div_p (by omega) (by omega) ?_) | ((with_reducible show BO _ _ _ .Div (.int _) (.int _) _); refine BO_div_s (Rm.handled (by first | assumption | apply_assumption)) (by omega) (by omega) (by omega) ?_) | ((with_reducible show IO _ _ _ (.tup _) (.int (OfNat.ofNat _)) _); refine IO_ti (by decide) rfl (by decide) ?_) | ((with_reducible show UO _ _ _ .USub (.int _) _); refine UO_neg_i ?_))
      refine ⟨by simp, ?_⟩
      refine WP_some ?_
      refine WE_call_builtin GB rfl nlen (by with_unfolding_all rfl) ?_
      repeat (first | ((with_reducible show WE _ _ _ _ _ _ (.BinOp _ _ _ _) _); refine WE_binop ?_) | ((with_reducible show WE _ _ _ _ _ _ (.Constant (.float _) _ _) _); refine WE_flt ?_) | ((with_reducible show WE _ _ _ _ _ _ (.Constant (.int _) _ _) _); refine WE_int ?_) | ((with_reducible show WE _ _ _ _ _ _ (.Constant (.bool _) _ _) _); refine WE_bool ?_) | ((with_reducible show WE _ _ _ _ _ _ (.Name _ _) _); first | refine WE_name rfl ?_ | refine WE_name (by assumption) ?_ | refine WE_name (comp_get (by assumption)) ?_) | ((with_reducible show WE _ _ _ _ _ _ (.Tuple _ _ _) _); refine WE_tuple ?_) | ((with_reducible show WE _ _ _ _ _ _ (.List _ _) _); refine WE_list ?_) | ((with_reducible show WE _ _ _ _ _ _ (.Subscript _ (.Slice _ _ none _) _) _); refine WE_cut ?_) | ((with_reducible show WE _ _ _ _ _ _ (.Subscript _ _ _) _); refine WE_item ?_) | ((with_reducible show WE _ _ _ _ _ _ (.UnaryOp _ _ _) _); refine WE_unary ?_) | ((with_reducible show WP _ _ _ _ _ _ (some _) _); refine WP_some ?_) | ((with_reducible show WP _ _ _ _ _ _ none _); refine WP_none ?_) | ((with_reducible show WEs _ _ _ _ _ _ (_ :: _) _); refine WEs_cons ?_) | ((with_reducible show WEs _ _ _ _ _ _ [] _); refine WEs_nil ?_) | ((with_reducible show BO _ _ _ .Mult (.flt _) (.flt _) _); refine BO_mul_ff ?_) | ((with_reducible show BO _ _ _ .Add (.flt _) (.flt _) _); refine BO_add_ff ?_) | ((with_reducible show BO _ _ _ .Sub (.flt _) (.flt _) _); refine BO_sub_ff ?_) | ((with_reducible show BO _ _ _ .Add (.int _) (.int _) _); refine BO_add_ii ?_) | ((with_reducible show BO _ _ _ .Sub (.int _) (.int _) _); refine BO_sub_ii ?_) | ((with_reducible show BO _ _ _ .Mult (.int _) (.int _) _); refine BO_mul_ii (by first | exact mulL (by omega) (by omega) | exact mulR (by omega) (by omega)) ?_) | ((with_reducible show BO _ _ _ .Pow (.int _) (.int _) _); first | refine BO_pow_eq pow40 (by decide) (by decide) ?_ | refine BO_pow_eq pow52 (by decide) (by decide) ?_ | refine BO_pow_eq pow53 (by decide) (by decide) ?_ | refine BO_pow2 (by omega) (by omega) ?_) | ((with_reducible show BO _ _ _ .Mod (.int _) (.int _) _); refine BO_mod_p (by omega) ?_) | ((with_reducible show BO _ _ _ .FloorDiv (.int _) (.int _) _); refine BO_div_p (by omega) (by omega) ?_) | ((with_reducible show BO _ _ _ .Div (.int _) (.int _) _); refine BO_div_s (Rm.handled (by first | assumption | apply_assumption)) (by omega) (by omega) (by omega) ?_) | ((with_reducible show IO _ _ _ (.tup _) (.int (OfNat.ofNat _)) _); refine IO_ti (by decide) rfl (by decide) ?_) | ((with_reducible show UO _ _ _ .USub (.int _) _); refine UO_neg_i ?_))
      refine WC_len_l (by simp; omega) ?_
      refine ⟨_, rfl, ?_⟩
      repeat (first | ((with_reducible show WE _ _ _ _ _ _ (.BinOp _ _ _ _) _); refine WE_binop ?_) | ((with_reducible show WE _ _ _ _ _ _ (.Constant (.float _) _ _) _); refine WE_flt ?_) | ((with_reducible show WE _ _ _ _ _ _ (.Constant (.int _) _ _) _); refine WE_int ?_) | ((with_reducible show WE _ _ _ _ _ _ (.Constant (.bool _) _ _) _); refine WE_bool ?_) | ((with_reducible show WE _ _ _ _ _ _ (.Name _ _) _); first | refine WE_name rfl ?_ | refine WE_name (by assumption) ?_ | refine WE_name (comp_get (by assumption)) ?_) | ((with_reducible show WE _ _ _ _ _ _ (.Tuple _ _ _) _); refine WE_tuple ?_) | ((with_reducible show WE _ _ _ _ _ _ (.List _ _) _); refine WE_list ?_) | ((with_reducible show WE _ _ _ _ _ _ (.Subscript _ (.Slice _ _ none _) _) _); refine WE_cut ?_) | ((with_reducible show WE _ _ _ _ _ _ (.Subscript _ _ _) _); refine WE_item ?_) | ((with_reducible show WE _ _ _ _ _ _ (.UnaryOp _ _ _) _); refine WE_unary ?_) | ((with_reducible show WP _ _ _ _ _ _ (some _) _); refine WP_some ?_) | ((with_reducible show WP _ _ _ _ _ _ none _); refine WP_none ?_) | ((with_reducible show WEs _ _ _ _ _ _ (_ :: _) _); refine WEs_cons ?_) | ((with_reducible show WEs _ _ _ _ _ _ [] _); refine WEs_nil ?_) | ((with_reducible show BO _ _ _ .Mult (.flt _) (.flt _) _); refine BO_mul_ff ?_) | ((with_reducible show BO _ _ _ .Add (.flt _) (.flt _) _); refine BO_add_ff ?_) | ((with_reducible show BO _ _ _ .Sub (.flt _) (.flt _) _); refine BO_sub_ff ?_) | ((with_reducible show BO _ _ _ .Add (.int _) (.int _) _); refine BO_add_ii ?_) | ((with_reducible show BO _ _ _ .Sub (.int _) (.int _) _); refine BO_sub_ii ?_) | ((with_reducible show BO _ _ _ .Mult (.int _) (.int _) _); refine BO_mul_ii (by first | exact mulL (by omega) (by omega) | exact mulR (by omega) (by omega)) ?_) | ((with_reducible show BO _ _ _ .Pow (.int _) (.int _) _); first | refine BO_pow_eq pow40 (by decide) (by decide) ?_ | refine BO_pow_eq pow52 (by decide) (by decide) ?_ | refine BO_pow_eq pow53 (by decide) (by decide) ?_ | refine BO_pow2 (by omega) (by omega) ?_) | ((with_reducible show BO _ _ _ .Mod (.int _) (.int _) _); refine BO_mod_p (by omega) ?_) | ((with_reducible show BO _ _ _ .FloorDiv (.int _) (.int _) _); refine BO_div_p (by omega) (by omega) ?_) | ((with_reducible show BO _ _ _ .Div (.int _) (.int _) _); refine BO_div_s (Rm.handled (by first | assumption | apply_assumption)) (by omega) (by omega) (by omega) ?_) | ((with_reducible show IO _ _ _ (.tup _) (.int (OfNat.ofNat _)) _); refine IO_ti (by decide) rfl (by decide) ?_) | ((with_reducible show UO _ _ _ .USub (.int _) _); refine UO_neg_i ?_))
      refine ⟨_, rfl, by simp, ?_⟩
      refine BO_add_ll (Nat.le_trans (Nat.add_le_add_left (cut_length_le _ _ _) _) (by simp; omega)) ?_
      rw [List.length_map, hxyz]
      refine ⟨_, .inl rfl, rfl, ?_⟩
      clear hxyz
      have hl := mod_bd y (top := 2 ^ cn)
      have hs := mod_bd z (top := 2 ^ bn)
      refine WS_cons ?_
      refine WX_assign_swap [Str.ofString "l", Str.ofString "s"] (hA _).handled (by intro x hx; simp only [List.mem_cons, List.not_mem_nil, or_false] at hx; rcases hx with rfl | rfl <;> exact .inl rfl) ?_
      repeat (first | ((with_reducible show WE _ _ _ _ _ _ (.BinOp _ _ _ _) _); refine WE_binop ?_) | ((with_reducible show WE _ _ _ _ _ _ (.Constant (.float _) _ _) _); refine WE_flt ?_) | ((with_reducible show WE _ _ _ _ _ _ (.Constant (.int _) _ _) _); refine WE_int ?_) | ((with_reducible show WE _ _ _ _ _ _ (.Constant (.bool _) _ _) _); refine WE_bool ?_) | ((with_reducible show WE _ _ _ _ _ _ (.Name _ _) _); first | refine WE_name rfl ?_ | refine WE_name (by assumption) ?_ | refine WE_name (comp_get (by assumption)) ?_) | ((with_reducible show WE _ _ _ _ _ _ (.Tuple _ _ _) _); refine WE_tuple ?_) | ((with_reducible show WE _ _ _ _ _ _ (.List _ _) _); refine WE_list ?_) | ((with_reducible show WE _ _ _ _ _ _ (.Subscript _ (.Slice _ _ none _) _) _); refine WE_cut ?_) | ((with_reducible show WE _ _ _ _ _ _ (.Subscript _ _ _) _); refine WE_item ?_) | ((with_reducible show WE _ _ _ _ _ _ (.UnaryOp _ _ _) _); refine WE_unary ?_) | ((with_reducible show WP _ _ _ _ _ _ (some _) _); refine WP_some ?_) | ((with_reducible show WP _ _ _ _ _ _ none _); refine WP_none ?_) | ((with_reducible show WEs _ _ _ _ _ _ (_ :: _) _); refine WEs_cons ?_) | ((with_reducible show WEs _ _ _ _ _ _ [] _); refine WEs_nil ?_) | ((with_reducible show BO _ _ _ .Mult (.flt _) (.flt _) _); refine BO_mul_ff ?_) | ((with_reducible show BO _ _ _ .Add (.flt _) (.flt _) _); refine BO_add_ff ?_) | ((with_reducible show BO _ _ _ .Sub (.flt _) (.flt _) _); refine BO_sub_ff ?_) | ((with_reducible show BO _ _ _ .Add (.int _) (.int _) _); refine BO_add_ii ?_) | ((with_reducible show BO _ _ _ .Sub (.int _) (.int _) _); refine BO_sub_ii ?_) | ((with_reducible show BO _ _ _ .Mult (.int _) (.int _) _); refine BO_mul_ii (by first | exact mulL (by omega) (by omega) | exact mulR (by omega) (by omega)) ?_) | ((with_reducible show BO _ _ _ .Pow (.int _) (.int _) _); first | refine BO_pow_eq pow40 (by decide) (by decide) ?_ | refine BO_pow_eq pow52 (by decide) (by decide) ?_ | refine BO_pow_eq pow53 (by decide) (by decide) ?_ | refine BO_pow2 (by omega) (by omega) ?_) | ((with_reducible show BO _ _ _ .Mod (.int _) (.int _) _); refine BO_mod_p (by omega) ?_) | ((with_reducible show BO _ _ _ .FloorDiv (.int _) (.int _) _); refine BO_div_p (by omega) (by omega) ?_) | ((with_reducible show BO _ _ _ .Div (.int _) (.int _) _); refine BO_div_s (Rm.handled (by first | assumption | apply_assumption)) (by omega) (by omega) (by omega) ?_) | ((with_reducible show IO _ _ _ (.tup _) (.int (OfNat.ofNat _)) _); refine IO_ti (by decide) rfl (by decide) ?_) | ((with_reducible show UO _ _ _ .USub (.int _) _); refine UO_neg_i ?_))
      refine ⟨by simp, _, rfl, rfl, ?_⟩
      generalize y % (2 ^ cn + 1) = l at hl ⊢
      generalize z % (2 ^ bn + 1) = s at hs ⊢
      have h8a := Int.emod_nonneg x (show 8 * 2 ^ an ≠ 0 by omega)
      have h8b := Int.emod_lt_of_pos x (show 0 < 8 * 2 ^ an by omega)
      have h1a := Int.emod_nonneg x (show (2 : Int) ^ an ≠ 0 by omega)
      have h1b := Int.emod_lt_of_pos x (show (0 : Int) < 2 ^ an by omega)
      have h6a := Int.emod_nonneg x (show 6 * 2 ^ an ≠ 0 by omega)
      have h6b := Int.emod_lt_of_pos x (show 0 < 6 * 2 ^ an by omega)
      refine WS_cons ?_
      refine WX_assign (.inr ⟨rfl, rfl, rfl⟩) ?_
      refine WE_call_doc GB hm2 ho2 hd2 hc2 rfl ?_
      repeat (first | ((with_reducible show WE _ _ _ _ _ _ (.BinOp _ _ _ _) _); refine WE_binop ?_) | ((with_reducible show WE _ _ _ _ _ _ (.Constant (.float _) _ _) _); refine WE_flt ?_) | ((with_reducible show WE _ _ _ _ _ _ (.Constant (.int _) _ _) _); refine WE_int ?_) | ((with_reducible show WE _ _ _ _ _ _ (.Constant (.bool _) _ _) _); refine WE_bool ?_) | ((with_reducible show WE _ _ _ _ _ _ (.Name _ _) _); first | refine WE_name rfl ?_ | refine WE_name (by assumption) ?_ | refine WE_name (comp_get (by assumption)) ?_) | ((with_reducible show WE _ _ _ _ _ _ (.Tuple _ _ _) _); refine WE_tuple ?_) | ((with_reducible show WE _ _ _ _ _ _ (.List _ _) _); refine WE_list ?_) | ((with_reducible show WE _ _ _ _ _ _ (.Subscript _ (.Slice _ _ none _) _) _); refine WE_cut ?_) | ((with_reducible show WE _ _ _ _ _ _ (.Subscript _ _ _) _); refine WE_item ?_) | ((with_reducible show WE _ _ _ _ _ _ (.UnaryOp _ _ _) _); refine WE_unary ?_) | ((with_reducible show WP _ _ _ _ _ _ (some _) _); refine WP_some ?_) | ((with_reducible show WP _ _ _ _ _ _ none _); refine WP_none ?_) | ((with_reducible show WEs _ _ _ _ _ _ (_ :: _) _); refine WEs_cons ?_) | ((with_reducible show WEs _ _ _ _ _ _ [] _); refine WEs_nil ?_) | ((with_reducible show BO _ _ _ .Mult (.flt _) (.flt _) _); refine BO_mul_ff ?_) | ((with_reducible show BO _ _ _ .Add (.flt _) (.flt _) _); refine BO_add_ff ?_) | ((with_reducible show BO _ _ _ .Sub (.flt _) (.flt _) _); refine BO_sub_ff ?_) | ((with_reducible show BO _ _ _ .Add (.int _) (.int _) _); refine BO_add_ii ?_) | ((with_reducible show BO _ _ _ .Sub (.int _) (.int _) _); refine BO_sub_ii ?_) | ((with_reducible show BO _ _ _ .Mult (.int _) (.int _) _); refine BO_mul_ii (by first | exact mulL (by omega) (by omega) | exact mulR (by omega) (by omega)) ?_) | ((with_reducible show BO _ _ _ .Pow (.int _) (.int _) _); first | refine BO_pow_eq pow40 (by decide) (by decide) ?_ | refine BO_pow_eq pow52 (by decide) (by decide) ?_ | refine BO_pow_eq pow53 (by decide) (by decide) ?_ | refine BO_pow2 (by omega) (by omega) ?_) | ((with_reducible show BO _ _ _ .Mod (.int _) (.int _) _); refine BO_mod_p (by omega) ?_) | ((with_reducible show BO _ _ _ .FloorDiv (.int _) (.int _) _); refine BO_div_p (by omega) (by omega) ?_) | ((with_reducible show BO _ _ _ .Div (.int _) (.int _) _); refine BO_div_s (Rm.handled (by first | assumption | apply_assumption)) (by omega) (by omega) (by omega) ?_) | ((with_reducible show IO _ _ _ (.tup _) (.int (OfNat.ofNat _)) _); refine IO_ti (by decide) rfl (by decide) ?_) | ((with_reducible show UO _ _ _ .USub (.int _) _); refine UO_neg_i ?_))
      refine WC.mono (fromHls _ (hA _).less _ _ _) ?_
      rintro d rfl
      refine WS_cons ?_
      refine WX_assign (.inr ⟨rfl, rfl, rfl⟩) ?_
      refine WE_call_doc GB hm5 ho5 hd5 hc5 rfl ?_
      repeat (first | ((with_reducible show WE _ _ _ _ _ _ (.BinOp _ _ _ _) _); refine WE_binop ?_) | ((with_reducible show WE _ _ _ _ _ _ (.Constant (.float _) _ _) _); refine WE_flt ?_) | ((with_reducible show WE _ _ _ _ _ _ (.Constant (.int _) _ _) _); refine WE_int ?_) | ((with_reducible show WE _ _ _ _ _ _ (.Constant (.bool _) _ _) _); refine WE_bool ?_) | ((with_reducible show WE _ _ _ _ _ _ (.Name _ _) _); first | refine WE_name rfl ?_ | refine WE_name (by assumption) ?_ | refine WE_name (comp_get (by assumption)) ?_) | ((with_reducible show WE _ _ _ _ _ _ (.Tuple _ _ _) _); refine WE_tuple ?_) | ((with_reducible show WE _ _ _ _ _ _ (.List _ _) _); refine WE_list ?_) | ((with_reducible show WE _ _ _ _ _ _ (.Subscript _ (.Slice _ _ none _) _) _); refine WE_cut ?_) | ((with_reducible show WE _ _ _ _ _ _ (.Subscript _ _ _) _); refine WE_item ?_) | ((with_reducible show WE _ _ _ _ _ _ (.UnaryOp _ _ _) _); refine WE_unary ?_) | ((with_reducible show WP _ _ _ _ _ _ (some _) _); refine WP_some ?_) | ((with_reducible show WP _ _ _ _ _ _ none _); refine WP_none ?_) | ((with_reducible show WEs _ _ _ _ _ _ (_ :: _) _); refine WEs_cons ?_) | ((with_reducible show WEs _ _ _ _ _ _ [] _); refine WEs_nil ?_) | ((with_reducible show BO _ _ _ .Mult (.flt _) (.flt _) _); refine BO_mul_ff ?_) | ((with_reducible show BO _ _ _ .Add (.flt _) (.flt _) _); refine BO_add_ff ?_) | ((with_reducible show BO _ _ _ .Sub (.flt _) (.flt _) _); refine BO_sub_ff ?_) | ((with_reducible show BO _ _ _ .Add (.int _) (.int _) _); refine BO_add_ii ?_) | ((with_reducible show BO _ _ _ .Sub (.int _) (.int _) _); refine BO_sub_ii ?_) | ((with_reducible show BO _ _ _ .Mult (.int _) (.int _) _); refine BO_mul_ii (by first | exact mulL (by omega) (by omega) | exact mulR (by omega) (by omega)) ?_) | ((with_reducible show BO _ _ _ .Pow (.int _) (.int _) _); first | refine BO_pow_eq pow40 (by decide) (by decide) ?_ | refine BO_pow_eq pow52 (by decide) (by decide) ?_ | refine BO_pow_eq pow53 (by decide) (by decide) ?_ | refine BO_pow2 (by omega) (by omega) ?_) | ((with_reducible show BO _ _ _ .Mod (.int _) (.int _) _); refine BO_mod_p (by omega) ?_) | ((with_reducible show BO _ _ _ .FloorDiv (.int _) (.int _) _); refine BO_div_p (by omega) (by omega) ?_) | ((with_reducible show BO _ _ _ .Div (.int _) (.int _) _); refine BO_div_s (Rm.handled (by first | assumption | apply_assumption)) (by omega) (by omega) (by omega) ?_) | ((with_reducible show IO _ _ _ (.tup _) (.int (OfNat.ofNat _)) _); refine IO_ti (by decide) rfl (by decide) ?_) | ((with_reducible show UO _ _ _ .USub (.int _) _); refine UO_neg_i ?_))
      refine WC.mono (lparts _ (hA _).less _ _ _ _ _ _ (by omega) (by omega) (by omega) hl hs) ?_
      rintro d rfl
      have hN := n08a habc han hbn hcn (x := x) hl hs
      generalize hlsC (Float64.add (divI (x % (8 * 2 ^ an)) (2 ^ an)) 4599676419421066581) (divI l (2 ^ cn)) (divI s (2 ^ bn)) = R at hN ⊢
      generalize hlsC (divI (x % (8 * 2 ^ an)) (2 ^ an)) (divI l (2 ^ cn)) (divI s (2 ^ bn)) = G at hN ⊢
      generalize hlsC (Float64.sub (divI (x % (8 * 2 ^ an)) (2 ^ an)) 4599676419421066581) (divI l (2 ^ cn)) (divI s (2 ^ bn)) = B at hN ⊢
      generalize partI (2 ^ an) (2 ^ bn) (2 ^ cn) (x % 2 ^ an * 6) l s 0 = P0 at hN ⊢
      generalize partI (2 ^ an) (2 ^ bn) (2 ^ cn) (x % 2 ^ an * 6) l s (2 * 2 ^ an) = P1 at hN ⊢
      generalize partI (2 ^ an) (2 ^ bn) (2 ^ cn) (x % 2 ^ an * 6) l s (4 * 2 ^ an) = P2 at hN ⊢
      obtain ⟨fr, er, fg, eg, fb, eb, ⟨bd0, bd1, bd2⟩, ps, hps, ps3, psl, hsure⟩ := hN
      refine WS_cons ?_
      refine WX_if (WT_or (WT_compare ?_))
      refine WE_call_type GB rfl ntype (by with_unfolding_all rfl) ?_
      repeat (first | ((with_reducible show WE _ _ _ _ _ _ (.BinOp _ _ _ _) _); refine WE_binop ?_) | ((with_reducible show WE _ _ _ _ _ _ (.Constant (.float _) _ _) _); refine WE_flt ?_) | ((with_reducible show WE _ _ _ _ _ _ (.Constant (.int _) _ _) _); refine WE_int ?_) | ((with_reducible show WE _ _ _ _ _ _ (.Constant (.bool _) _ _) _); refine WE_bool ?_) | ((with_reducible show WE _ _ _ _ _ _ (.Name _ _) _); first | refine WE_name rfl ?_ | refine WE_name (by assumption) ?_ | refine WE_name (comp_get (by assumption)) ?_) | ((with_reducible show WE _ _ _ _ _ _ (.Tuple _ _ _) _); refine WE_tuple ?_) | ((with_reducible show WE _ _ _ _ _ _ (.List _ _) _); refine WE_list ?_) | ((with_reducible show WE _ _ _ _ _ _ (.Subscript _ (.Slice _ _ none _) _) _); refine WE_cut ?_) | ((with_reducible show WE _ _ _ _ _ _ (.Subscript _ _ _) _); refine WE_item ?_) | ((with_reducible show WE _ _ _ _ _ _ (.UnaryOp _ _ _) _); refine WE_unary ?_) | ((with_reducible show WP _ _ _ _ _ _ (some _) _); refine WP_some ?_) | ((with_reducible show WP _ _ _ _ _ _ none _); refine WP_none ?_) | ((with_reducible show WEs _ _ _ _ _ _ (_ :: _) _); refine WEs_cons ?_) | ((with_reducible show WEs _ _ _ _ _ _ [] _); refine WEs_nil ?_) | ((with_reducible show BO _ _ _ .Mult (.flt _) (.flt _) _); refine BO_mul_ff ?_) | ((with_reducible show BO _ _ _ .Add (.flt _) (.flt _) _); refine BO_add_ff ?_) | ((with_reducible show BO _ _ _ .Sub (.flt _) (.flt _) _); refine BO_sub_ff ?_) | ((with_reducible show BO _ _ _ .Add (.int _) (.int _) _); refine BO_add_ii ?_) | ((with_reducible show BO _ _ _ .Sub (.int _) (.int _) _); refine BO_sub_ii ?_) | ((with_reducible show BO _ _ _ .Mult (.int _) (.int _) _); refine BO_mul_ii (by first | exact mulL (by omega) (by omega) | exact mulR (by omega) (by omega)) ?_) | ((with_reducible show BO _ _ _ .Pow (.int _) (.int _) _); first | refine BO_pow_eq pow40 (by decide) (by decide) ?_ | refine BO_pow_eq pow52 (by decide) (by decide) ?_ | refine BO_pow_eq pow53 (by decide) (by decide) ?_ | refine BO_pow2 (by omega) (by omega) ?_) | ((with_reducible show BO _ _ _ .Mod (.int _) (.int _) _); refine BO_mod_p (by omega) ?_) | ((with_reducible show BO _ _ _ .FloorDiv (.int _) (.int _) _); refine BO_div_p (by omega) (by omega) ?_) | ((with_reducible show BO _ _ _ .Div (.int _) (.int _) _); refine BO_div_s (Rm.handled (by first | assumption | apply_assumption)) (by omega) (by omega) (by omega) ?_) | ((with_reducible show IO _ _ _ (.tup _) (.int (OfNat.ofNat _)) _); refine IO_ti (by decide) rfl (by decide) ?_) | ((with_reducible show UO _ _ _ .USub (.int _) _); refine UO_neg_i ?_))
      refine WC_type_t ?_
      refine WE_type GB rfl ntuple (by with_unfolding_all rfl) ?_
      refine CO_isnot_typ ?_
      show WT _ _ _ _ _ _ _ _
      refine WT_or (WT_compare ?_)
      refine WE_listcomp (compOk rfl) (WI_tup (hA _).handled ?_)
      repeat (first | ((with_reducible show WE _ _ _ _ _ _ (.BinOp _ _ _ _) _); refine WE_binop ?_) | ((with_reducible show WE _ _ _ _ _ _ (.Constant (.float _) _ _) _); refine WE_flt ?_) | ((with_reducible show WE _ _ _ _ _ _ (.Constant (.int _) _ _) _); refine WE_int ?_) | ((with_reducible show WE _ _ _ _ _ _ (.Constant (.bool _) _ _) _); refine WE_bool ?_) | ((with_reducible show WE _ _ _ _ _ _ (.Name _ _) _); first | refine WE_name rfl ?_ | refine WE_name (by assumption) ?_ | refine WE_name (comp_get (by assumption)) ?_) | ((with_reducible show WE _ _ _ _ _ _ (.Tuple _ _ _) _); refine WE_tuple ?_) | ((with_reducible show WE _ _ _ _ _ _ (.List _ _) _); refine WE_list ?_) | ((with_reducible show WE _ _ _ _ _ _ (.Subscript _ (.Slice _ _ none _) _) _); refine WE_cut ?_) | ((with_reducible show WE _ _ _ _ _ _ (.Subscript _ _ _) _); refine WE_item ?_) | ((with_reducible show WE _ _ _ _ _ _ (.UnaryOp _ _ _) _); refine WE_unary ?_) | ((with_reducible show WP _ _ _ _ _ _ (some _) _); refine WP_some ?_) | ((with_reducible show WP _ _ _ _ _ _ none _); refine WP_none ?_) | ((with_reducible show WEs _ _ _ _ _ _ (_ :: _) _); refine WEs_cons ?_) | ((with_reducible show WEs _ _ _ _ _ _ [] _); refine WEs_nil ?_) | ((with_reducible show BO _ _ _ .Mult (.flt _) (.flt _) _); refine BO_mul_ff ?_) | ((with_reducible show BO _ _ _ .Add (.flt _) (.flt _) _); refine BO_add_ff ?_) | ((with_reducible show BO _ _ _ .Sub (.flt _) (.flt _) _); refine BO_sub_ff ?_) | ((with_reducible show BO _ _ _ .Add (.int _) (.int _) _); refine BO_add_ii ?_) | ((with_reducible show BO _ _ _ .Sub (.int _) (.int _) _); refine BO_sub_ii ?_) | ((with_reducible show BO _ _ _ .Mult (.int _) (.int _) _); refine BO_mul_ii (by first | exact mulL (by omega) (by omega) | exact mulR (by omega) (by omega)) ?_) | ((with_reducible show BO _ _ _ .Pow (.int _) (.int _) _); first | refine BO_pow_eq pow40 (by decide) (by decide) ?_ | refine BO_pow_eq pow52 (by decide) (by decide) ?_ | refine BO_pow_eq pow53 (by decide) (by decide) ?_ | refine BO_pow2 (by omega) (by omega) ?_) | ((with_reducible show BO _ _ _ .Mod (.int _) (.int _) _); refine BO_mod_p (by omega) ?_) | ((with_reducible show BO _ _ _ .FloorDiv (.int _) (.int _) _); refine BO_div_p (by omega) (by omega) ?_) | ((with_reducible show BO _ _ _ .Div (.int _) (.int _) _); refine BO_div_s (Rm.handled (by first | assumption | apply_assumption)) (by omega) (by omega) (by omega) ?_) | ((with_reducible show IO _ _ _ (.tup _) (.int (OfNat.ofNat _)) _); refine IO_ti (by decide) rfl (by decide) ?_) | ((with_reducible show UO _ _ _ .USub (.int _) _); refine UO_neg_i ?_))
      refine ⟨_, rfl, by simp, fun C cl => CompP_map (onFlt fun x => .int (roundF (Float64.mul x (Float64.ofInt 1099511627776)))) _ _ ?_ ?_⟩
      · intro d hd
        obtain ⟨x, rfl, fx⟩ := mem3 (P := fun d => ∃ x, d = .flt x ∧ Float64.isFinite (Float64.mul x (Float64.ofInt 1099511627776)) = true) ⟨_, rfl, fr⟩ ⟨_, rfl, fg⟩ ⟨_, rfl, fb⟩ d hd
        refine WE_call_builtin GB rfl nround (by with_unfolding_all rfl) ?_
        repeat (first | ((with_reducible show WE _ _ _ _ _ _ (.BinOp _ _ _ _) _); refine WE_binop ?_) | ((with_reducible show WE _ _ _ _ _ _ (.Constant (.float _) _ _) _); refine WE_flt ?_) | ((with_reducible show WE _ _ _ _ _ _ (.Constant (.int _) _ _) _); refine WE_int ?_) | ((with_reducible show WE _ _ _ _ _ _ (.Constant (.bool _) _ _) _); refine WE_bool ?_) | ((with_reducible show WE _ _ _ _ _ _ (.Name _ _) _); first | refine WE_name rfl ?_ | refine WE_name (by assumption) ?_ | refine WE_name (comp_get (by assumption)) ?_) | ((with_reducible show WE _ _ _ _ _ _ (.Tuple _ _ _) _); refine WE_tuple ?_) | ((with_reducible show WE _ _ _ _ _ _ (.List _ _) _); refine WE_list ?_) | ((with_reducible show WE _ _ _ _ _ _ (.Subscript _ (.Slice _ _ none _) _) _); refine WE_cut ?_) | ((with_reducible show WE _ _ _ _ _ _ (.Subscript _ _ _) _); refine WE_item ?_) | ((with_reducible show WE _ _ _ _ _ _ (.UnaryOp _ _ _) _); refine WE_unary ?_) | ((with_reducible show WP _ _ _ _ _ _ (some _) _); refine WP_some ?_) | ((with_reducible show WP _ _ _ _ _ _ none _); refine WP_none ?_) | ((with_reducible show WEs _ _ _ _ _ _ (_ :: _) _); refine WEs_cons ?_) | ((with_reducible show WEs _ _ _ _ _ _ [] _); refine WEs_nil ?_) | ((with_reducible show BO _ _ _ .Mult (.flt _) (.flt _) _); refine BO_mul_ff ?_) | ((with_reducible show BO _ _ _ .Add (.flt _) (.flt _) _); refine BO_add_ff ?_) | ((with_reducible show BO _ _ _ .Sub (.flt _) (.flt _) _); refine BO_sub_ff ?_) | ((with_reducible show BO _ _ _ .Add (.int _) (.int _) _); refine BO_add_ii ?_) | ((with_reducible show BO _ _ _ .Sub (.int _) (.int _) _); refine BO_sub_ii ?_) | ((with_reducible show BO _ _ _ .Mult (.int _) (.int _) _); refine BO_mul_ii (by first | exact mulL (by omega) (by omega) | exact mulR (by omega) (by omega)) ?_) | ((with_reducible show BO _ _ _ .Pow (.int _) (.int _) _); first | refine BO_pow_eq pow40 (by decide) (by decide) ?_ | refine BO_pow_eq pow52 (by decide) (by decide) ?_ | refine BO_pow_eq pow53 (by decide) (by decide) ?_ | refine BO_pow2 (by omega) (by omega) ?_) | ((with_reducible show BO _ _ _ .Mod (.int _) (.int _) _); refine BO_mod_p (by omega) ?_) | ((with_reducible show BO _ _ _ .FloorDiv (.int _) (.int _) _); refine BO_div_p (by omega) (by omega) ?_) | ((with_reducible show BO _ _ _ .Div (.int _) (.int _) _); refine BO_div_s (Rm.handled (by first | assumption | apply_assumption)) (by omega) (by omega) (by omega) ?_) | ((with_reducible show IO _ _ _ (.tup _) (.int (OfNat.ofNat _)) _); refine IO_ti (by decide) rfl (by decide) ?_) | ((with_reducible show UO _ _ _ .USub (.int _) _); refine UO_neg_i ?_))
        refine BO_mul_fi (by decide) ?_
        repeat (first | ((with_reducible show WE _ _ _ _ _ _ (.BinOp _ _ _ _) _); refine WE_binop ?_) | ((with_reducible show WE _ _ _ _ _ _ (.Constant (.float _) _ _) _); refine WE_flt ?_) | ((with_reducible show WE _ _ _ _ _ _ (.Constant (.int _) _ _) _); refine WE_int ?_) | ((with_reducible show WE _ _ _ _ _ _ (.Constant (.bool _) _ _) _); refine WE_bool ?_) | ((with_reducible show WE _ _ _ _ _ _ (.Name _ _) _); first | refine WE_name rfl ?_ | refine WE_name (by assumption) ?_ | refine WE_name (comp_get (by assumption)) ?_) | ((with_reducible show WE _ _ _ _ _ _ (.Tuple _ _ _) _); refine WE_tuple ?_) | ((with_reducible show WE _ _ _ _ _ _ (.List _ _) _); refine WE_list ?_) | ((with_reducible show WE _ _ _ _ _ _ (.Subscript _ (.Slice _ _ none _) _) _); refine WE_cut ?_) | ((with_reducible show WE _ _ _ _ _ _ (.Subscript _ _ _) _); refine WE_item ?_) | ((with_reducible show WE _ _ _ _ _ _ (.UnaryOp _ _ _) _); refine WE_unary ?_) | ((with_reducible show WP _ _ _ _ _ _ (some _) _); refine WP_some ?_) | ((with_reducible show WP _ _ _ _ _ _ none _); refine WP_none ?_) | ((with_reducible show WEs _ _ _ _ _ _ (_ :: _) _); refine WEs_cons ?_) | ((with_reducible show WEs _ _ _ _ _ _ [] _); refine WEs_nil ?_) | ((with_reducible show BO _ _ _ .Mult (.flt _) (.flt _) _); refine BO_mul_ff ?_) | ((with_reducible show BO _ _ _ .Add (.flt _) (.flt _) _); refine BO_add_ff ?_) | ((with_reducible show BO _ _ _ .Sub (.flt _) (.flt _) _); refine BO_sub_ff ?_) | ((with_reducible show BO _ _ _ .Add (.int _) (.int _) _); refine BO_add_ii ?_) | ((with_reducible show BO _ _ _ .Sub (.int _) (.int _) _); refine BO_sub_ii ?_) | ((with_reducible show BO _ _ _ .Mult (.int _) (.int _) _); refine BO_mul_ii (by first | exact mulL (by omega) (by omega) | exact mulR (by omega) (by omega)) ?_) | ((with_reducible show BO _ _ _ .Pow (.int _) (.int _) _); first | refine BO_pow_eq pow40 (by decide) (by decide) ?_ | refine BO_pow_eq pow52 (by decide) (by decide) ?_ | refine BO_pow_eq pow53 (by decide) (by decide) ?_ | refine BO_pow2 (by omega) (by omega) ?_) | ((with_reducible show BO _ _ _ .Mod (.int _) (.int _) _); refine BO_mod_p (by omega) ?_) | ((with_reducible show BO _ _ _ .FloorDiv (.int _) (.int _) _); refine BO_div_p (by omega) (by omega) ?_) | ((with_reducible show BO _ _ _ .Div (.int _) (.int _) _); refine BO_div_s (Rm.handled (by first | assumption | apply_assumption)) (by omega) (by omega) (by omega) ?_) | ((with_reducible show IO _ _ _ (.tup _) (.int (OfNat.ofNat _)) _); refine IO_ti (by decide) rfl (by decide) ?_) | ((with_reducible show UO _ _ _ .USub (.int _) _); refine UO_neg_i ?_))
        exact WC_round (hA _).handled fx rfl
      repeat (first | ((with_reducible show WE _ _ _ _ _ _ (.BinOp _ _ _ _) _); refine WE_binop ?_) | ((with_reducible show WE _ _ _ _ _ _ (.Constant (.float _) _ _) _); refine WE_flt ?_) | ((with_reducible show WE _ _ _ _ _ _ (.Constant (.int _) _ _) _); refine WE_int ?_) | ((with_reducible show WE _ _ _ _ _ _ (.Constant (.bool _) _ _) _); refine WE_bool ?_) | ((with_reducible show WE _ _ _ _ _ _ (.Name _ _) _); first | refine WE_name rfl ?_ | refine WE_name (by assumption) ?_ | refine WE_name (comp_get (by assumption)) ?_) | ((with_reducible show WE _ _ _ _ _ _ (.Tuple _ _ _) _); refine WE_tuple ?_) | ((with_reducible show WE _ _ _ _ _ _ (.List _ _) _); refine WE_list ?_) | ((with_reducible show WE _ _ _ _ _ _ (.Subscript _ (.Slice _ _ none _) _) _); refine WE_cut ?_) | ((with_reducible show WE _ _ _ _ _ _ (.Subscript _ _ _) _); refine WE_item ?_) | ((with_reducible show WE _ _ _ _ _ _ (.UnaryOp _ _ _) _); refine WE_unary ?_) | ((with_reducible show WP _ _ _ _ _ _ (some _) _); refine WP_some ?_) | ((with_reducible show WP _ _ _ _ _ _ none _); refine WP_none ?_) | ((with_reducible show WEs _ _ _ _ _ _ (_ :: _) _); refine WEs_cons ?_) | ((with_reducible show WEs _ _ _ _ _ _ [] _); refine WEs_nil ?_) | ((with_reducible show BO _ _ _ .Mult (.flt _) (.flt _) _); refine BO_mul_ff ?_) | ((with_reducible show BO _ _ _ .Add (.flt _) (.flt _) _); refine BO_add_ff ?_) | ((with_reducible show BO _ _ _ .Sub (.flt _) (.flt _) _); refine BO_sub_ff ?_) | ((with_reducible show BO _ _ _ .Add (.int _) (.int _) _); refine BO_add_ii ?_) | ((with_reducible show BO _ _ _ .Sub (.int _) (.int _) _); refine BO_sub_ii ?_) | ((with_reducible show BO _ _ _ .Mult (.int _) (.int _) _); refine BO_mul_ii (by first | exact mulL (by omega) (by omega) | exact mulR (by omega) (by omega)) ?_) | ((with_reducible show BO _ _ _ .Pow (.int _) (.int _) _); first | refine BO_pow_eq pow40 (by decide) (by decide) ?_ | refine BO_pow_eq pow52 (by decide) (by decide) ?_ | refine BO_pow_eq pow53 (by decide) (by decide) ?_ | refine BO_pow2 (by omega) (by omega) ?_) | ((with_reducible show BO _ _ _ .Mod (.int _) (.int _) _); refine BO_mod_p (by omega) ?_) | ((with_reducible show BO _ _ _ .FloorDiv (.int _) (.int _) _); refine BO_div_p (by omega) (by omega) ?_) | ((with_reducible show BO _ _ _ .Div (.int _) (.int _) _); refine BO_div_s (Rm.handled (by first | assumption | apply_assumption)) (by omega) (by omega) (by omega) ?_) | ((with_reducible show IO _ _ _ (.tup _) (.int (OfNat.ofNat _)) _); refine IO_ti (by decide) rfl (by decide) ?_) | ((with_reducible show UO _ _ _ .USub (.int _) _); refine UO_neg_i ?_))
      refine CO_ne_ll GB (hA _).cl (r := true) (by simp only [List.map, onFlt, er, eg, eb]; simp [eqL, eqD]) ?_
      show WT _ _ _ _ _ _ _ _
      refine WT_or_nil ?_
      show WS _ _ _ _ _ _ _ _
      refine WS_nil ?_
      have hj0 : 0 ≤ x % 2 ^ an * 6 / 2 ^ an := Int.ediv_nonneg (by omega) (by omega)
      have hj1 : x % 2 ^ an * 6 / 2 ^ an < 6 := Int.ediv_lt_of_lt_mul (by omega) (by omega)
      refine WS_cons ?_
      refine WX.mono (Q := fun oo σ => oo = .next ∧ σ "script" = some (.dat (.lst (ns.map D.int))) ∧ σ "n" = some (.dat (.int (2 ^ an))) ∧ σ "m" = some (.dat (.int (2 ^ bn))) ∧ σ "k" = some (.dat (.int (2 ^ cn))) ∧ σ "x" = some (.dat (.int x)) ∧ σ "y" = some (.dat (.int y)) ∧ σ "z" = some (.dat (.int z)) ∧ σ "l" = some (.dat (.int l)) ∧ σ "s" = some (.dat (.int s)) ∧ σ "told" = some (.dat (.tup [.flt R, .flt G, .flt B])) ∧ σ "parts" = some (.dat (.lst [.int P0, .int P1, .int P2])) ∧ σ "sure" = some (.dat (.lst (ps.map fun (p : Nat) => D.int (p : Int))))) ?_ ?_
      · refine WX_assign ?hx ?hv ?hs
        case hx => exact .inl rfl
        case hs => exact swaps_sub
        case hv =>
          refine WE_item ?hv ?hs
          case hs => exact fun _ _ => sub_bin
          case hv =>
            refine WE_table (is := [[0, 1, 2], [1, 2], [0, 1], [0, 2], [1, 2], [0, 1]]) ?_ ?_ ?_
            · rfl
            · decide
            repeat (first | ((with_reducible show WE _ _ _ _ _ _ (.BinOp _ _ _ _) _); refine WE_binop ?_) | ((with_reducible show WE _ _ _ _ _ _ (.Constant (.float _) _ _) _); refine WE_flt ?_) | ((with_reducible show WE _ _ _ _ _ _ (.Constant (.int _) _ _) _); refine WE_int ?_) | ((with_reducible show WE _ _ _ _ _ _ (.Constant (.bool _) _ _) _); refine WE_bool ?_) | ((with_reducible show WE _ _ _ _ _ _ (.Name _ _) _); first | refine WE_name rfl ?_ | refine WE_name (by assumption) ?_ | refine WE_name (comp_get (by assumption)) ?_) | ((with_reducible show WE _ _ _ _ _ _ (.Tuple _ _ _) _); refine WE_tuple ?_) | ((with_reducible show WE _ _ _ _ _ _ (.List _ _) _); refine WE_list ?_) | ((with_reducible show WE _ _ _ _ _ _ (.Subscript _ (.Slice _ _ none _) _) _); refine WE_cut ?_) | ((with_reducible show WE _ _ _ _ _ _ (.Subscript _ _ _) _); refine WE_item ?_) | ((with_reducible show WE _ _ _ _ _ _ (.UnaryOp _ _ _) _); refine WE_unary ?_) | ((with_reducible show WP _ _ _ _ _ _ (some _) _); refine WP_some ?_) | ((with_reducible show WP _ _ _ _ _ _ none _); refine WP_none ?_) | ((with_reducible show WEs _ _ _ _ _ _ (_ :: _) _); refine WEs_cons ?_) | ((with_reducible show WEs _ _ _ _ _ _ [] _); refine WEs_nil ?_) | ((with_reducible show BO _ _ _ .Mult (.flt _) (.flt _) _); refine BO_mul_ff ?_) | ((with_reducible show BO _ _ _ .Add (.flt _) (.flt _) _); refine BO_add_ff ?_) | ((with_reducible show BO _ _ _ .Sub (.flt _) (.flt _) _); refine BO_sub_ff ?_) | ((with_reducible show BO _ _ _ .Add (.int _) (.int _) _); refine BO_add_ii ?_) | ((with_reducible show BO _ _ _ .Sub (.int _) (.int _) _); refine BO_sub_ii ?_) | ((with_reducible show BO _ _ _ .Mult (.int _) (.int _) _); refine BO_mul_ii (by first | exact mulL (by omega) (by omega) | exact mulR (by omega) (by omega)) ?_) | ((with_reducible show BO _ _ _ .Pow (.int _) (.int _) _); first | refine BO_pow_eq pow40 (by decide) (by decide) ?_ | refine BO_pow_eq pow52 (by decide) (by decide) ?_ | refine BO_pow_eq pow53 (by decide) (by decide) ?_ | refine BO_pow2 (by omega) (by omega) ?_) | ((with_reducible show BO _ _ _ .Mod (.int _) (.int _) _); refine BO_mod_p (by omega) ?_) | ((with_reducible show BO _ _ _ .FloorDiv (.int _) (.int _) _); refine BO_div_p (by omega) (by omega) ?_) | ((with_reducible show BO _ _ _ .Div (.int _) (.int _) _); refine BO_div_s (Rm.handled (by first | assumption | apply_assumption)) (by omega) (by omega) (by omega) ?_) | ((with_reducible show IO _ _ _ (.tup _) (.int (OfNat.ofNat _)) _); refine IO_ti (by decide) rfl (by decide) ?_) | ((with_reducible show UO _ _ _ .USub (.int _) _); refine UO_neg_i ?_))
            refine IO_li hj0 hps (by omega) ?_
            exact ⟨rfl, k1, k2, k3, k4, rfl, rfl, rfl, rfl, rfl, rfl, rfl, rfl⟩
      clear k1 k2 k3 k4 hps hj0 hj1 fr er fg eg fb eb
      rintro oo σ ⟨rfl, k1, k2, k3, k4, k5, k6, k7, k8, k9, k10, k11, k12⟩
      refine WS_cons ?_
      refine WX.mono (Q := fun oo σ' => oo = .next ∧ σ' = σ) ?_ ?_
      · refine WX_if (WT_and (WT_compare ?_))
        repeat (first | ((with_reducible show WE _ _ _ _ _ _ (.BinOp _ _ _ _) _); refine WE_binop ?_) | ((with_reducible show WE _ _ _ _ _ _ (.Constant (.float _) _ _) _); refine WE_flt ?_) | ((with_reducible show WE _ _ _ _ _ _ (.Constant (.int _) _ _) _); refine WE_int ?_) | ((with_reducible show WE _ _ _ _ _ _ (.Constant (.bool _) _ _) _); refine WE_bool ?_) | ((with_reducible show WE _ _ _ _ _ _ (.Name _ _) _); first | refine WE_name rfl ?_ | refine WE_name (by assumption) ?_ | refine WE_name (comp_get (by assumption)) ?_) | ((with_reducible show WE _ _ _ _ _ _ (.Tuple _ _ _) _); refine WE_tuple ?_) | ((with_reducible show WE _ _ _ _ _ _ (.List _ _) _); refine WE_list ?_) | ((with_reducible show WE _ _ _ _ _ _ (.Subscript _ (.Slice _ _ none _) _) _); refine WE_cut ?_) | ((with_reducible show WE _ _ _ _ _ _ (.Subscript _ _ _) _); refine WE_item ?_) | ((with_reducible show WE _ _ _ _ _ _ (.UnaryOp _ _ _) _); refine WE_unary ?_) | ((with_reducible show WP _ _ _ _ _ _ (some _) _); refine WP_some ?_) | ((with_reducible show WP _ _ _ _ _ _ none _); refine WP_none ?_) | ((with_reducible show WEs _ _ _ _ _ _ (_ :: _) _); refine WEs_cons ?_) | ((with_reducible show WEs _ _ _ _ _ _ [] _); refine WEs_nil ?_) | ((with_reducible show BO _ _ _ .Mult (.flt _) (.flt _) _); refine BO_mul_ff ?_) | ((with_reducible show BO _ _ _ .Add (.flt _) (.flt _) _); refine BO_add_ff ?_) | ((with_reducible show BO _ _ _ .Sub (.flt _) (.flt _) _); refine BO_sub_ff ?_) | ((with_reducible show BO _ _ _ .Add (.int _) (.int _) _); refine BO_add_ii ?_) | ((with_reducible show BO _ _ _ .Sub (.int _) (.int _) _); refine BO_sub_ii ?_) | ((with_reducible show BO _ _ _ .Mult (.int _) (.int _) _); refine BO_mul_ii (by first | exact mulL (by omega) (by omega) | exact mulR (by omega) (by omega)) ?_) | ((with_reducible show BO _ _ _ .Pow (.int _) (.int _) _); first | refine BO_pow_eq pow40 (by decide) (by decide) ?_ | refine BO_pow_eq pow52 (by decide) (by decide) ?_ | refine BO_pow_eq pow53 (by decide) (by decide) ?_ | refine BO_pow2 (by omega) (by omega) ?_) | ((with_reducible show BO _ _ _ .Mod (.int _) (.int _) _); refine BO_mod_p (by omega) ?_) | ((with_reducible show BO _ _ _ .FloorDiv (.int _) (.int _) _); refine BO_div_p (by omega) (by omega) ?_) | ((with_reducible show BO _ _ _ .Div (.int _) (.int _) _); refine BO_div_s (Rm.handled (by first | assumption | apply_assumption)) (by omega) (by omega) (by omega) ?_) | ((with_reducible show IO _ _ _ (.tup _) (.int (OfNat.ofNat _)) _); refine IO_ti (by decide) rfl (by decide) ?_) | ((with_reducible show UO _ _ _ .USub (.int _) _); refine UO_neg_i ?_))
        refine CO_lt_ii ?_
        by_cases pos : x % (8 * 2 ^ an) < 2 ^ an
        · rw [decide_eq_true pos]
          show WT _ _ _ _ _ _ _ _
          refine WT_and (WT_compare ?_)
          refine WE_listcomp (compOk rfl) (WI_lst (hA _).handled ?_)
          repeat (first | ((with_reducible show WE _ _ _ _ _ _ (.BinOp _ _ _ _) _); refine WE_binop ?_) | ((with_reducible show WE _ _ _ _ _ _ (.Constant (.float _) _ _) _); refine WE_flt ?_) | ((with_reducible show WE _ _ _ _ _ _ (.Constant (.int _) _ _) _); refine WE_int ?_) | ((with_reducible show WE _ _ _ _ _ _ (.Constant (.bool _) _ _) _); refine WE_bool ?_) | ((with_reducible show WE _ _ _ _ _ _ (.Name _ _) _); first | refine WE_name rfl ?_ | refine WE_name (by assumption) ?_ | refine WE_name (comp_get (by assumption)) ?_) | ((with_reducible show WE _ _ _ _ _ _ (.Tuple _ _ _) _); refine WE_tuple ?_) | ((with_reducible show WE _ _ _ _ _ _ (.List _ _) _); refine WE_list ?_) | ((with_reducible show WE _ _ _ _ _ _ (.Subscript _ (.Slice _ _ none _) _) _); refine WE_cut ?_) | ((with_reducible show WE _ _ _ _ _ _ (.Subscript _ _ _) _); refine WE_item ?_) | ((with_reducible show WE _ _ _ _ _ _ (.UnaryOp _ _ _) _); refine WE_unary ?_) | ((with_reducible show WP _ _ _ _ _ _ (some _) _); refine WP_some ?_) | ((with_reducible show WP _ _ _ _ _ _ none _); refine WP_none ?_) | ((with_reducible show WEs _ _ _ _ _ _ (_ :: _) _); refine WEs_cons ?_) | ((with_reducible show WEs _ _ _ _ _ _ [] _); refine WEs_nil ?_) | ((with_reducible show BO _ _ _ .Mult (.flt _) (.flt _) _); refine BO_mul_ff ?_) | ((with_reducible show BO _ _ _ .Add (.flt _) (.flt _) _); refine BO_add_ff ?_) | ((with_reducible show BO _ _ _ .Sub (.flt _) (.flt _) _); refine BO_sub_ff ?_) | ((with_reducible show BO _ _ _ .Add (.int _) (.int _) _); refine BO_add_ii ?_) | ((with_reducible show BO _ _ _ .Sub (.int _) (.int _) _); refine BO_sub_ii ?_) | ((with_reducible show BO _ _ _ .Mult (.int _) (.int _) _); refine BO_mul_ii (by first | exact mulL (by omega) (by omega) | exact mulR (by omega) (by omega)) ?_) | ((with_reducible show BO _ _ _ .Pow (.int _) (.int _) _); first | refine BO_pow_eq pow40 (by decide) (by decide) ?_ | refine BO_pow_eq pow52 (by decide) (by decide) ?_ | refine BO_pow_eq pow53 (by decide) (by decide) ?_ | refine BO_pow2 (by omega) (by omega) ?_) | ((with_reducible show BO _ _ _ .Mod (.int _) (.int _) _); refine BO_mod_p (by omega) ?_) | ((with_reducible show BO _ _ _ .FloorDiv (.int _) (.int _) _); refine BO_div_p (by omega) (by omega) ?_) | ((with_reducible show BO _ _ _ .Div (.int _) (.int _) _); refine BO_div_s (Rm.handled (by first | assumption | apply_assumption)) (by omega) (by omega) (by omega) ?_) | ((with_reducible show IO _ _ _ (.tup _) (.int (OfNat.ofNat _)) _); refine IO_ti (by decide) rfl (by decide) ?_) | ((with_reducible show UO _ _ _ .USub (.int _) _); refine UO_neg_i ?_))
          refine ⟨_, rfl, by simp; omega, fun C cl => CompP_map (onInt fun i => .flt (pk3 R G B i.toNat)) _ _ ?_ ?_⟩
          · intro d hd
            obtain ⟨p, hp, rfl⟩ := List.mem_map.mp hd
            have hp3 := ps3 p hp
            repeat (first | ((with_reducible show WE _ _ _ _ _ _ (.BinOp _ _ _ _) _); refine WE_binop ?_) | ((with_reducible show WE _ _ _ _ _ _ (.Constant (.float _) _ _) _); refine WE_flt ?_) | ((with_reducible show WE _ _ _ _ _ _ (.Constant (.int _) _ _) _); refine WE_int ?_) | ((with_reducible show WE _ _ _ _ _ _ (.Constant (.bool _) _ _) _); refine WE_bool ?_) | ((with_reducible show WE _ _ _ _ _ _ (.Name _ _) _); first | refine WE_name rfl ?_ | refine WE_name (by assumption) ?_ | refine WE_name (comp_get (by assumption)) ?_) | ((with_reducible show WE _ _ _ _ _ _ (.Tuple _ _ _) _); refine WE_tuple ?_) | ((with_reducible show WE _ _ _ _ _ _ (.List _ _) _); refine WE_list ?_) | ((with_reducible show WE _ _ _ _ _ _ (.Subscript _ (.Slice _ _ none _) _) _); refine WE_cut ?_) | ((with_reducible show WE _ _ _ _ _ _ (.Subscript _ _ _) _); refine WE_item ?_) | ((with_reducible show WE _ _ _ _ _ _ (.UnaryOp _ _ _) _); refine WE_unary ?_) | ((with_reducible show WP _ _ _ _ _ _ (some _) _); refine WP_some ?_) | ((with_reducible show WP _ _ _ _ _ _ none _); refine WP_none ?_) | ((with_reducible show WEs _ _ _ _ _ _ (_ :: _) _); refine WEs_cons ?_) | ((with_reducible show WEs _ _ _ _ _ _ [] _); refine WEs_nil ?_) | ((with_reducible show BO _ _ _ .Mult (.flt _) (.flt _) _); refine BO_mul_ff ?_) | ((with_reducible show BO _ _ _ .Add (.flt _) (.flt _) _); refine BO_add_ff ?_) | ((with_reducible show BO _ _ _ .Sub (.flt _) (.flt _) _); refine BO_sub_ff ?_) | ((with_reducible show BO _ _ _ .Add (.int _) (.int _) _); refine BO_add_ii ?_) | ((with_reducible show BO _ _ _ .Sub (.int _) (.int _) _); refine BO_sub_ii ?_) | ((with_reducible show BO _ _ _ .Mult (.int _) (.int _) _); refine BO_mul_ii (by first | exact mulL (by omega) (by omega) | exact mulR (by omega) (by omega)) ?_) | ((with_reducible show BO _ _ _ .Pow (.int _) (.int _) _); first | refine BO_pow_eq pow40 (by decide) (by decide) ?_ | refine BO_pow_eq pow52 (by decide) (by decide) ?_ | refine BO_pow_eq pow53 (by decide) (by decide) ?_ | refine BO_pow2 (by omega) (by omega) ?_) | ((with_reducible show BO _ _ _ .Mod (.int _) (.int _) _); refine BO_mod_p (by omega) ?_) | ((with_reducible show BO _ _ _ .FloorDiv (.int _) (.int _) _); refine BO_div_p (by omega) (by omega) ?_) | ((with_reducible show BO _ _ _ .Div (.int _) (.int _) _); refine BO_div_s (Rm.handled (by first | assumption | apply_assumption)) (by omega) (by omega) (by omega) ?_) | ((with_reducible show IO _ _ _ (.tup _) (.int (OfNat.ofNat _)) _); refine IO_ti (by decide) rfl (by decide) ?_) | ((with_reducible show UO _ _ _ .USub (.int _) _); refine UO_neg_i ?_))
            exact IO_ti (by omega) (get3 (f := D.flt) hp3) (by omega) rfl
          refine WE_listcomp (compOk rfl) (WI_lst (hA _).handled ?_)
          repeat (first | ((with_reducible show WE _ _ _ _ _ _ (.BinOp _ _ _ _) _); refine WE_binop ?_) | ((with_reducible show WE _ _ _ _ _ _ (.Constant (.float _) _ _) _); refine WE_flt ?_) | ((with_reducible show WE _ _ _ _ _ _ (.Constant (.int _) _ _) _); refine WE_int ?_) | ((with_reducible show WE _ _ _ _ _ _ (.Constant (.bool _) _ _) _); refine WE_bool ?_) | ((with_reducible show WE _ _ _ _ _ _ (.Name _ _) _); first | refine WE_name rfl ?_ | refine WE_name (by assumption) ?_ | refine WE_name (comp_get (by assumption)) ?_) | ((with_reducible show WE _ _ _ _ _ _ (.Tuple _ _ _) _); refine WE_tuple ?_) | ((with_reducible show WE _ _ _ _ _ _ (.List _ _) _); refine WE_list ?_) | ((with_reducible show WE _ _ _ _ _ _ (.Subscript _ (.Slice _ _ none _) _) _); refine WE_cut ?_) | ((with_reducible show WE _ _ _ _ _ _ (.Subscript _ _ _) _); refine WE_item ?_) | ((with_reducible show WE _ _ _ _ _ _ (.UnaryOp _ _ _) _); refine WE_unary ?_) | ((with_reducible show WP _ _ _ _ _ _ (some _) _); refine WP_some ?_) | ((with_reducible show WP _ _ _ _ _ _ none _); refine WP_none ?_) | ((with_reducible show WEs _ _ _ _ _ _ (_ :: _) _); refine WEs_cons ?_) | ((with_reducible show WEs _ _ _ _ _ _ [] _); refine WEs_nil ?_) | ((with_reducible show BO _ _ _ .Mult (.flt _) (.flt _) _); refine BO_mul_ff ?_) | ((with_reducible show BO _ _ _ .Add (.flt _) (.flt _) _); refine BO_add_ff ?_) | ((with_reducible show BO _ _ _ .Sub (.flt _) (.flt _) _); refine BO_sub_ff ?_) | ((with_reducible show BO _ _ _ .Add (.int _) (.int _) _); refine BO_add_ii ?_) | ((with_reducible show BO _ _ _ .Sub (.int _) (.int _) _); refine BO_sub_ii ?_) | ((with_reducible show BO _ _ _ .Mult (.int _) (.int _) _); refine BO_mul_ii (by first | exact mulL (by omega) (by omega) | exact mulR (by omega) (by omega)) ?_) | ((with_reducible show BO _ _ _ .Pow (.int _) (.int _) _); first | refine BO_pow_eq pow40 (by decide) (by decide) ?_ | refine BO_pow_eq pow52 (by decide) (by decide) ?_ | refine BO_pow_eq pow53 (by decide) (by decide) ?_ | refine BO_pow2 (by omega) (by omega) ?_) | ((with_reducible show BO _ _ _ .Mod (.int _) (.int _) _); refine BO_mod_p (by omega) ?_) | ((with_reducible show BO _ _ _ .FloorDiv (.int _) (.int _) _); refine BO_div_p (by omega) (by omega) ?_) | ((with_reducible show BO _ _ _ .Div (.int _) (.int _) _); refine BO_div_s (Rm.handled (by first | assumption | apply_assumption)) (by omega) (by omega) (by omega) ?_) | ((with_reducible show IO _ _ _ (.tup _) (.int (OfNat.ofNat _)) _); refine IO_ti (by decide) rfl (by decide) ?_) | ((with_reducible show UO _ _ _ .USub (.int _) _); refine UO_neg_i ?_))
          refine ⟨_, rfl, by simp; omega, fun C cl => CompP_map (onInt fun i => .flt (divI (pk3 P0 P1 P2 i.toNat) 1099511627776)) _ _ ?_ ?_⟩
          · intro d hd
            obtain ⟨p, hp, rfl⟩ := List.mem_map.mp hd
            have hp3 := ps3 p hp
            repeat (first | ((with_reducible show WE _ _ _ _ _ _ (.BinOp _ _ _ _) _); refine WE_binop ?_) | ((with_reducible show WE _ _ _ _ _ _ (.Constant (.float _) _ _) _); refine WE_flt ?_) | ((with_reducible show WE _ _ _ _ _ _ (.Constant (.int _) _ _) _); refine WE_int ?_) | ((with_reducible show WE _ _ _ _ _ _ (.Constant (.bool _) _ _) _); refine WE_bool ?_) | ((with_reducible show WE _ _ _ _ _ _ (.Name _ _) _); first | refine WE_name rfl ?_ | refine WE_name (by assumption) ?_ | refine WE_name (comp_get (by assumption)) ?_) | ((with_reducible show WE _ _ _ _ _ _ (.Tuple _ _ _) _); refine WE_tuple ?_) | ((with_reducible show WE _ _ _ _ _ _ (.List _ _) _); refine WE_list ?_) | ((with_reducible show WE _ _ _ _ _ _ (.Subscript _ (.Slice _ _ none _) _) _); refine WE_cut ?_) | ((with_reducible show WE _ _ _ _ _ _ (.Subscript _ _ _) _); refine WE_item ?_) | ((with_reducible show WE _ _ _ _ _ _ (.UnaryOp _ _ _) _); refine WE_unary ?_) | ((with_reducible show WP _ _ _ _ _ _ (some _) _); refine WP_some ?_) | ((with_reducible show WP _ _ _ _ _ _ none _); refine WP_none ?_) | ((with_reducible show WEs _ _ _ _ _ _ (_ :: _) _); refine WEs_cons ?_) | ((with_reducible show WEs _ _ _ _ _ _ [] _); refine WEs_nil ?_) | ((with_reducible show BO _ _ _ .Mult (.flt _) (.flt _) _); refine BO_mul_ff ?_) | ((with_reducible show BO _ _ _ .Add (.flt _) (.flt _) _); refine BO_add_ff ?_) | ((with_reducible show BO _ _ _ .Sub (.flt _) (.flt _) _); refine BO_sub_ff ?_) | ((with_reducible show BO _ _ _ .Add (.int _) (.int _) _); refine BO_add_ii ?_) | ((with_reducible show BO _ _ _ .Sub (.int _) (.int _) _); refine BO_sub_ii ?_) | ((with_reducible show BO _ _ _ .Mult (.int _) (.int _) _); refine BO_mul_ii (by first | exact mulL (by omega) (by omega) | exact mulR (by omega) (by omega)) ?_) | ((with_reducible show BO _ _ _ .Pow (.int _) (.int _) _); first | refine BO_pow_eq pow40 (by decide) (by decide) ?_ | refine BO_pow_eq pow52 (by decide) (by decide) ?_ | refine BO_pow_eq pow53 (by decide) (by decide) ?_ | refine BO_pow2 (by omega) (by omega) ?_) | ((with_reducible show BO _ _ _ .Mod (.int _) (.int _) _); refine BO_mod_p (by omega) ?_) | ((with_reducible show BO _ _ _ .FloorDiv (.int _) (.int _) _); refine BO_div_p (by omega) (by omega) ?_) | ((with_reducible show BO _ _ _ .Div (.int _) (.int _) _); refine BO_div_s (Rm.handled (by first | assumption | apply_assumption)) (by omega) (by omega) (by omega) ?_) | ((with_reducible show IO _ _ _ (.tup _) (.int (OfNat.ofNat _)) _); refine IO_ti (by decide) rfl (by decide) ?_) | ((with_reducible show UO _ _ _ .USub (.int _) _); refine UO_neg_i ?_))
            have hpk := pk3_bd bd0 bd1 bd2 p
            refine IO_li (by omega) (get3 (f := D.int) hp3) (by omega) ?_
            repeat (first | ((with_reducible show WE _ _ _ _ _ _ (.BinOp _ _ _ _) _); refine WE_binop ?_) | ((with_reducible show WE _ _ _ _ _ _ (.Constant (.float _) _ _) _); refine WE_flt ?_) | ((with_reducible show WE _ _ _ _ _ _ (.Constant (.int _) _ _) _); refine WE_int ?_) | ((with_reducible show WE _ _ _ _ _ _ (.Constant (.bool _) _ _) _); refine WE_bool ?_) | ((with_reducible show WE _ _ _ _ _ _ (.Name _ _) _); first | refine WE_name rfl ?_ | refine WE_name (by assumption) ?_ | refine WE_name (comp_get (by assumption)) ?_) | ((with_reducible show WE _ _ _ _ _ _ (.Tuple _ _ _) _); refine WE_tuple ?_) | ((with_reducible show WE _ _ _ _ _ _ (.List _ _) _); refine WE_list ?_) | ((with_reducible show WE _ _ _ _ _ _ (.Subscript _ (.Slice _ _ none _) _) _); refine WE_cut ?_) | ((with_reducible show WE _ _ _ _ _ _ (.Subscript _ _ _) _); refine WE_item ?_) | ((with_reducible show WE _ _ _ _ _ _ (.UnaryOp _ _ _) _); refine WE_unary ?_) | ((with_reducible show WP _ _ _ _ _ _ (some _) _); refine WP_some ?_) | ((with_reducible show WP _ _ _ _ _ _ none _); refine WP_none ?_) | ((with_reducible show WEs _ _ _ _ _ _ (_ :: _) _); refine WEs_cons ?_) | ((with_reducible show WEs _ _ _ _ _ _ [] _); refine WEs_nil ?_) | ((with_reducible show BO _ _ _ .Mult (.flt _) (.flt _) _); refine BO_mul_ff ?_) | ((with_reducible show BO _ _ _ .Add (.flt _) (.flt _) _); refine BO_add_ff ?_) | ((with_reducible show BO _ _ _ .Sub (.flt _) (.flt _) _); refine BO_sub_ff ?_) | ((with_reducible show BO _ _ _ .Add (.int _) (.int _) _); refine BO_add_ii ?_) | ((with_reducible show BO _ _ _ .Sub (.int _) (.int _) _); refine BO_sub_ii ?_) | ((with_reducible show BO _ _ _ .Mult (.int _) (.int _) _); refine BO_mul_ii (by first | exact mulL (by omega) (by omega) | exact mulR (by omega) (by omega)) ?_) | ((with_reducible show BO _ _ _ .Pow (.int _) (.int _) _); first | refine BO_pow_eq pow40 (by decide) (by decide) ?_ | refine BO_pow_eq pow52 (by decide) (by decide) ?_ | refine BO_pow_eq pow53 (by decide) (by decide) ?_ | refine BO_pow2 (by omega) (by omega) ?_) | ((with_reducible show BO _ _ _ .Mod (.int _) (.int _) _); refine BO_mod_p (by omega) ?_) | ((with_reducible show BO _ _ _ .FloorDiv (.int _) (.int _) _); refine BO_div_p (by omega) (by omega) ?_) | ((with_reducible show BO _ _ _ .Div (.int _) (.int _) _); refine BO_div_s (Rm.handled (by first | assumption | apply_assumption)) (by omega) (by omega) (by omega) ?_) | ((with_reducible show IO _ _ _ (.tup _) (.int (OfNat.ofNat _)) _); refine IO_ti (by decide) rfl (by decide) ?_) | ((with_reducible show UO _ _ _ .USub (.int _) _); refine UO_neg_i ?_))
            rfl
          refine CO_ne_ll GB (hA _).cl (r := true) (eqL_map ?_) ?_
          · intro d hd
            obtain ⟨p, hp, rfl⟩ := List.mem_map.mp hd
            exact eqD_flt (hsure pos p hp)
          show WS _ _ _ _ _ _ _ _
          exact WS_nil ⟨rfl, rfl⟩
        · rw [decide_eq_false pos]
          show WS _ _ _ _ _ _ _ _
          exact WS_nil ⟨rfl, rfl⟩
      rintro oo σ' ⟨rfl, rfl⟩
      clear hsure ps3 psl k11 k12 bd0 bd1 bd2
      refine WS_cons ?_
      refine WX_assign (.inl rfl) ?_
      repeat (first | ((with_reducible show WE _ _ _ _ _ _ (.BinOp _ _ _ _) _); refine WE_binop ?_) | ((with_reducible show WE _ _ _ _ _ _ (.Constant (.float _) _ _) _); refine WE_flt ?_) | ((with_reducible show WE _ _ _ _ _ _ (.Constant (.int _) _ _) _); refine WE_int ?_) | ((with_reducible show WE _ _ _ _ _ _ (.Constant (.bool _) _ _) _); refine WE_bool ?_) | ((with_reducible show WE _ _ _ _ _ _ (.Name _ _) _); first | refine WE_name rfl ?_ | refine WE_name (by assumption) ?_ | refine WE_name (comp_get (by assumption)) ?_) | ((with_reducible show WE _ _ _ _ _ _ (.Tuple _ _ _) _); refine WE_tuple ?_) | ((with_reducible show WE _ _ _ _ _ _ (.List _ _) _); refine WE_list ?_) | ((with_reducible show WE _ _ _ _ _ _ (.Subscript _ (.Slice _ _ none _) _) _); refine WE_cut ?_) | ((with_reducible show WE _ _ _ _ _ _ (.Subscript _ _ _) _); refine WE_item ?_) | ((with_reducible show WE _ _ _ _ _ _ (.UnaryOp _ _ _) _); refine WE_unary ?_) | ((with_reducible show WP _ _ _ _ _ _ (some _) _); refine WP_some ?_) | ((with_reducible show WP _ _ _ _ _ _ none _); refine WP_none ?_) | ((with_reducible show WEs _ _ _ _ _ _ (_ :: _) _); refine WEs_cons ?_) | ((with_reducible show WEs _ _ _ _ _ _ [] _); refine WEs_nil ?_) | ((with_reducible show BO _ _ _ .Mult (.flt _) (.flt _) _); refine BO_mul_ff ?_) | ((with_reducible show BO _ _ _ .Add (.flt _) (.flt _) _); refine BO_add_ff ?_) | ((with_reducible show BO _ _ _ .Sub (.flt _) (.flt _) _); refine BO_sub_ff ?_) | ((with_reducible show BO _ _ _ .Add (.int _) (.int _) _); refine BO_add_ii ?_) | ((with_reducible show BO _ _ _ .Sub (.int _) (.int _) _); refine BO_sub_ii ?_) | ((with_reducible show BO _ _ _ .Mult (.int _) (.int _) _); refine BO_mul_ii (by first | exact mulL (by omega) (by omega) | exact mulR (by omega) (by omega)) ?_) | ((with_reducible show BO _ _ _ .Pow (.int _) (.int _) _); first | refine BO_pow_eq pow40 (by decide) (by decide) ?_ | refine BO_pow_eq pow52 (by decide) (by decide) ?_ | refine BO_pow_eq pow53 (by decide) (by decide) ?_ | refine BO_pow2 (by omega) (by omega) ?_) | ((with_reducible show BO _ _ _ .Mod (.int _) (.int _) _); refine BO_mod_p (by omega) ?_) | ((with_reducible show BO _ _ _ .FloorDiv (.int _) (.int _) _); refine BO_div_p (by omega) (by omega) ?_) | ((with_reducible show BO _ _ _ .Div (.int _) (.int _) _); refine BO_div_s (Rm.handled (by first | assumption | apply_assumption)) (by omega) (by omega) (by omega) ?_) | ((with_reducible show IO _ _ _ (.tup _) (.int (OfNat.ofNat _)) _); refine IO_ti (by decide) rfl (by decide) ?_) | ((with_reducible show UO _ _ _ .USub (.int _) _); refine UO_neg_i ?_))
      obtain ⟨okB, hB0, hB1⟩ := n08b habc han hbn hcn (hue := x % (6 * 2 ^ an)) ⟨h6a, h6b⟩ hl hs rfl rfl rfl
      obtain ⟨_, c1, c2, _⟩ := part_bd (hue := x % (6 * 2 ^ an)) (corner := 0) habc hl.1 hl.2 hs.1 hs.2
      obtain ⟨_, c3, c4, _⟩ := part_bd (hue := x % (6 * 2 ^ an)) (corner := 2 * 2 ^ an) habc hl.1 hl.2 hs.1 hs.2
      obtain ⟨_, c5, c6, _⟩ := part_bd (hue := x % (6 * 2 ^ an)) (corner := 4 * 2 ^ an) habc hl.1 hl.2 hs.1 hs.2
      refine WS_cons ?_
      refine WX_assign (.inl rfl) ?_
      refine WE_call_star GB (⟨hm3, ⟨o3, ho3, hd3⟩, hc3⟩ : FnAt _ _ _ _ _) rfl ?_
      refine WE_listcomp (compOk rfl) (WI_lst (hA _).handled ?_) (fun _ => fold_cal)
      refine WE_call_doc GB hm5 ho5 hd5 hc5 rfl ?_
      repeat (first | ((with_reducible show WE _ _ _ _ _ _ (.BinOp _ _ _ _) _); refine WE_binop ?_) | ((with_reducible show WE _ _ _ _ _ _ (.Constant (.float _) _ _) _); refine WE_flt ?_) | ((with_reducible show WE _ _ _ _ _ _ (.Constant (.int _) _ _) _); refine WE_int ?_) | ((with_reducible show WE _ _ _ _ _ _ (.Constant (.bool _) _ _) _); refine WE_bool ?_) | ((with_reducible show WE _ _ _ _ _ _ (.Name _ _) _); first | refine WE_name rfl ?_ | refine WE_name (by assumption) ?_ | refine WE_name (comp_get (by assumption)) ?_) | ((with_reducible show WE _ _ _ _ _ _ (.Tuple _ _ _) _); refine WE_tuple ?_) | ((with_reducible show WE _ _ _ _ _ _ (.List _ _) _); refine WE_list ?_) | ((with_reducible show WE _ _ _ _ _ _ (.Subscript _ (.Slice _ _ none _) _) _); refine WE_cut ?_) | ((with_reducible show WE _ _ _ _ _ _ (.Subscript _ _ _) _); refine WE_item ?_) | ((with_reducible show WE _ _ _ _ _ _ (.UnaryOp _ _ _) _); refine WE_unary ?_) | ((with_reducible show WP _ _ _ _ _ _ (some _) _); refine WP_some ?_) | ((with_reducible show WP _ _ _ _ _ _ none _); refine WP_none ?_) | ((with_reducible show WEs _ _ _ _ _ _ (_ :: _) _); refine WEs_cons ?_) | ((with_reducible show WEs _ _ _ _ _ _ [] _); refine WEs_nil ?_) | ((with_reducible show BO _ _ _ .Mult (.flt _) (.flt _) _); refine BO_mul_ff ?_) | ((with_reducible show BO _ _ _ .Add (.flt _) (.flt _) _); refine BO_add_ff ?_) | ((with_reducible show BO _ _ _ .Sub (.flt _) (.flt _) _); refine BO_sub_ff ?_) | ((with_reducible show BO _ _ _ .Add (.int _) (.int _) _); refine BO_add_ii ?_) | ((with_reducible show BO _ _ _ .Sub (.int _) (.int _) _); refine BO_sub_ii ?_) | ((with_reducible show BO _ _ _ .Mult (.int _) (.int _) _); refine BO_mul_ii (by first | exact mulL (by omega) (by omega) | exact mulR (by omega) (by omega)) ?_) | ((with_reducible show BO _ _ _ .Pow (.int _) (.int _) _); first | refine BO_pow_eq pow40 (by decide) (by decide) ?_ | refine BO_pow_eq pow52 (by decide) (by decide) ?_ | refine BO_pow_eq pow53 (by decide) (by decide) ?_ | refine BO_pow2 (by omega) (by omega) ?_) | ((with_reducible show BO _ _ _ .Mod (.int _) (.int _) _); refine BO_mod_p (by omega) ?_) | ((with_reducible show BO _ _ _ .FloorDiv (.int _) (.int _) _); refine BO_div_p (by omega) (by omega) ?_) | ((with_reducible show BO _ _ _ .Div (.int _) (.int _) _); refine BO_div_s (Rm.handled (by first | assumption | apply_assumption)) (by omega) (by omega) (by omega) ?_) | ((with_reducible show IO _ _ _ (.tup _) (.int (OfNat.ofNat _)) _); refine IO_ti (by decide) rfl (by decide) ?_) | ((with_reducible show UO _ _ _ .USub (.int _) _); refine UO_neg_i ?_))
      refine WC.mono (lparts _ (hA _).less _ _ _ _ _ _ (by omega) (by omega) (by omega) hl hs) ?_
      rintro d rfl
      generalize partI (2 ^ an) (2 ^ bn) (2 ^ cn) (x % (6 * 2 ^ an)) l s 0 = Q0 at okB hB0 hB1 c1 c2 ⊢
      generalize partI (2 ^ an) (2 ^ bn) (2 ^ cn) (x % (6 * 2 ^ an)) l s (2 * 2 ^ an) = Q1 at okB hB0 hB1 c3 c4 ⊢
      generalize partI (2 ^ an) (2 ^ bn) (2 ^ cn) (x % (6 * 2 ^ an)) l s (4 * 2 ^ an) = Q2 at okB hB0 hB1 c5 c6 ⊢
      refine ⟨_, rfl, by simp, fun C cl => CompP_map (onInt fun i => .flt (divI i 1099511627776)) _ _ ?_ ?_⟩
      · intro d hd
        obtain ⟨i, rfl, i1, i2⟩ := mem3 (P := fun d => ∃ i, d = .int i ∧ 0 ≤ i ∧ i ≤ 2 ^ 40) ⟨_, rfl, c1, c2⟩ ⟨_, rfl, c3, c4⟩ ⟨_, rfl, c5, c6⟩ d hd
        repeat (first | ((with_reducible show WE _ _ _ _ _ _ (.BinOp _ _ _ _) _); refine WE_binop ?_) | ((with_reducible show WE _ _ _ _ _ _ (.Constant (.float _) _ _) _); refine WE_flt ?_) | ((with_reducible show WE _ _ _ _ _ _ (.Constant (.int _) _ _) _); refine WE_int ?_) | ((with_reducible show WE _ _ _ _ _ _ (.Constant (.bool _) _ _) _); refine WE_bool ?_) | ((with_reducible show WE _ _ _ _ _ _ (.Name _ _) _); first | refine WE_name rfl ?_ | refine WE_name (by assumption) ?_ | refine WE_name (comp_get (by assumption)) ?_) | ((with_reducible show WE _ _ _ _ _ _ (.Tuple _ _ _) _); refine WE_tuple ?_) | ((with_reducible show WE _ _ _ _ _ _ (.List _ _) _); refine WE_list ?_) | ((with_reducible show WE _ _ _ _ _ _ (.Subscript _ (.Slice _ _ none _) _) _); refine WE_cut ?_) | ((with_reducible show WE _ _ _ _ _ _ (.Subscript _ _ _) _); refine WE_item ?_) | ((with_reducible show WE _ _ _ _ _ _ (.UnaryOp _ _ _) _); refine WE_unary ?_) | ((with_reducible show WP _ _ _ _ _ _ (some _) _); refine WP_some ?_) | ((with_reducible show WP _ _ _ _ _ _ none _); refine WP_none ?_) | ((with_reducible show WEs _ _ _ _ _ _ (_ :: _) _); refine WEs_cons ?_) | ((with_reducible show WEs _ _ _ _ _ _ [] _); refine WEs_nil ?_) | ((with_reducible show BO _ _ _ .Mult (.flt _) (.flt _) _); refine BO_mul_ff ?_) | ((with_reducible show BO _ _ _ .Add (.flt _) (.flt _) _); refine BO_add_ff ?_) | ((with_reducible show BO _ _ _ .Sub (.flt _) (.flt _) _); refine BO_sub_ff ?_) | ((with_reducible show BO _ _ _ .Add (.int _) (.int _) _); refine BO_add_ii ?_) | ((with_reducible show BO _ _ _ .Sub (.int _) (.int _) _); refine BO_sub_ii ?_) | ((with_reducible show BO _ _ _ .Mult (.int _) (.int _) _); refine BO_mul_ii (by first | exact mulL (by omega) (by omega) | exact mulR (by omega) (by omega)) ?_) | ((with_reducible show BO _ _ _ .Pow (.int _) (.int _) _); first | refine BO_pow_eq pow40 (by decide) (by decide) ?_ | refine BO_pow_eq pow52 (by decide) (by decide) ?_ | refine BO_pow_eq pow53 (by decide) (by decide) ?_ | refine BO_pow2 (by omega) (by omega) ?_) | ((with_reducible show BO _ _ _ .Mod (.int _) (.int _) _); refine BO_mod_p (by omega) ?_) | ((with_reducible show BO _ _ _ .FloorDiv (.int _) (.int _) _); refine BO_div_p (by omega) (by omega) ?_) | ((with_reducible show BO _ _ _ .Div (.int _) (.int _) _); refine BO_div_s (Rm.handled (by first | assumption | apply_assumption)) (by omega) (by omega) (by omega) ?_) | ((with_reducible show IO _ _ _ (.tup _) (.int (OfNat.ofNat _)) _); refine IO_ti (by decide) rfl (by decide) ?_) | ((with_reducible show UO _ _ _ .USub (.int _) _); refine UO_neg_i ?_))
        rfl
      refine ⟨_, rfl, by simp, ?_⟩
      show WC _ _ _ _ _ [.flt (divI Q0 1099511627776), .flt (divI Q1 1099511627776), .flt (divI Q2 1099511627776)] _
      refine WC.mono (toHls _ (hA _).less _ _ _ okB) ?_
      rintro d rfl
      have hT0 := fun z => (hB0 z).t
      have hT1 := fun z => (hB1 z).t
      clear hB0 hB1 okB
      generalize toH (divI Q0 1099511627776) (divI Q1 1099511627776) (divI Q2 1099511627776) = H at hT0 hT1 ⊢
      generalize toL (divI Q0 1099511627776) (divI Q1 1099511627776) (divI Q2 1099511627776) = Li at hT0 hT1 ⊢
      generalize toS (divI Q0 1099511627776) (divI Q1 1099511627776) (divI Q2 1099511627776) = Sa at hT0 hT1 ⊢
      refine WS_cons ?_
      refine WX.mono (Q := fun oo σ => oo = .next ∧ ∃ hue s : Int, (0 ≤ s ∧ s ≤ 2 ^ bn) ∧ (0 ≤ hue ∧ hue < 6 * 2 ^ an) ∧ T8 an bn cn hue l s H Li Sa ∧ σ "script" = some (.dat (.lst (ns.map D.int))) ∧ σ "n" = some (.dat (.int (2 ^ an))) ∧ σ "m" = some (.dat (.int (2 ^ bn))) ∧ σ "k" = some (.dat (.int (2 ^ cn))) ∧ σ "x" = some (.dat (.int x)) ∧ σ "y" = some (.dat (.int y)) ∧ σ "z" = some (.dat (.int z)) ∧ σ "l" = some (.dat (.int l)) ∧ σ "s" = some (.dat (.int s)) ∧ σ "told" = some (.dat (.tup [.flt R, .flt G, .flt B])) ∧ σ "hue" = some (.dat (.int hue)) ∧ σ "back" = some (.dat (.tup [.flt H, .flt Li, .flt Sa]))) ?_ ?_
      · refine WX_if (WT_compare ?_)
        repeat (first | ((with_reducible show WE _ _ _ _ _ _ (.BinOp _ _ _ _) _); refine WE_binop ?_) | ((with_reducible show WE _ _ _ _ _ _ (.Constant (.float _) _ _) _); refine WE_flt ?_) | ((with_reducible show WE _ _ _ _ _ _ (.Constant (.int _) _ _) _); refine WE_int ?_) | ((with_reducible show WE _ _ _ _ _ _ (.Constant (.bool _) _ _) _); refine WE_bool ?_) | ((with_reducible show WE _ _ _ _ _ _ (.Name _ _) _); first | refine WE_name rfl ?_ | refine WE_name (by assumption) ?_ | refine WE_name (comp_get (by assumption)) ?_) | ((with_reducible show WE _ _ _ _ _ _ (.Tuple _ _ _) _); refine WE_tuple ?_) | ((with_reducible show WE _ _ _ _ _ _ (.List _ _) _); refine WE_list ?_) | ((with_reducible show WE _ _ _ _ _ _ (.Subscript _ (.Slice _ _ none _) _) _); refine WE_cut ?_) | ((with_reducible show WE _ _ _ _ _ _ (.Subscript _ _ _) _); refine WE_item ?_) | ((with_reducible show WE _ _ _ _ _ _ (.UnaryOp _ _ _) _); refine WE_unary ?_) | ((with_reducible show WP _ _ _ _ _ _ (some _) _); refine WP_some ?_) | ((with_reducible show WP _ _ _ _ _ _ none _); refine WP_none ?_) | ((with_reducible show WEs _ _ _ _ _ _ (_ :: _) _); refine WEs_cons ?_) | ((with_reducible show WEs _ _ _ _ _ _ [] _); refine WEs_nil ?_) | ((with_reducible show BO _ _ _ .Mult (.flt _) (.flt _) _); refine BO_mul_ff ?_) | ((with_reducible show BO _ _ _ .Add (.flt _) (.flt _) _); refine BO_add_ff ?_) | ((with_reducible show BO _ _ _ .Sub (.flt _) (.flt _) _); refine BO_sub_ff ?_) | ((with_reducible show BO _ _ _ .Add (.int _) (.int _) _); refine BO_add_ii ?_) | ((with_reducible show BO _ _ _ .Sub (.int _) (.int _) _); refine BO_sub_ii ?_) | ((with_reducible show BO _ _ _ .Mult (.int _) (.int _) _); refine BO_mul_ii (by first | exact mulL (by omega) (by omega) | exact mulR (by omega) (by omega)) ?_) | ((with_reducible show BO _ _ _ .Pow (.int _) (.int _) _); first | refine BO_pow_eq pow40 (by decide) (by decide) ?_ | refine BO_pow_eq pow52 (by decide) (by decide) ?_ | refine BO_pow_eq pow53 (by decide) (by decide) ?_ | refine BO_pow2 (by omega) (by omega) ?_) | ((with_reducible show BO _ _ _ .Mod (.int _) (.int _) _); refine BO_mod_p (by omega) ?_) | ((with_reducible show BO _ _ _ .FloorDiv (.int _) (.int _) _); refine BO_div_p (by omega) (by omega) ?_) | ((with_reducible show BO _ _ _ .Div (.int _) (.int _) _); refine BO_div_s (Rm.handled (by first | assumption | apply_assumption)) (by omega) (by omega) (by omega) ?_) | ((with_reducible show IO _ _ _ (.tup _) (.int (OfNat.ofNat _)) _); refine IO_ti (by decide) rfl (by decide) ?_) | ((with_reducible show UO _ _ _ .USub (.int _) _); refine UO_neg_i ?_))
        refine CO_eq_ii ?_
        by_cases z0 : s * l * (2 ^ cn - l) = 0
        · rw [show (s * l * (2 ^ cn - l) == 0) = true from beq_iff_eq.mpr z0]
          show WS _ _ _ _ _ _ _ _
          refine WS_cons ?_
          refine WX_assign_tuple (hA _).handled rfl (by intro x hx; simp only [List.mem_cons, List.not_mem_nil, or_false] at hx; rcases hx with rfl | rfl <;> exact .inl rfl) ?_
          repeat (first | ((with_reducible show WE _ _ _ _ _ _ (.BinOp _ _ _ _) _); refine WE_binop ?_) | ((with_reducible show WE _ _ _ _ _ _ (.Constant (.float _) _ _) _); refine WE_flt ?_) | ((with_reducible show WE _ _ _ _ _ _ (.Constant (.int _) _ _) _); refine WE_int ?_) | ((with_reducible show WE _ _ _ _ _ _ (.Constant (.bool _) _ _) _); refine WE_bool ?_) | ((with_reducible show WE _ _ _ _ _ _ (.Name _ _) _); first | refine WE_name rfl ?_ | refine WE_name (by assumption) ?_ | refine WE_name (comp_get (by assumption)) ?_) | ((with_reducible show WE _ _ _ _ _ _ (.Tuple _ _ _) _); refine WE_tuple ?_) | ((with_reducible show WE _ _ _ _ _ _ (.List _ _) _); refine WE_list ?_) | ((with_reducible show WE _ _ _ _ _ _ (.Subscript _ (.Slice _ _ none _) _) _); refine WE_cut ?_) | ((with_reducible show WE _ _ _ _ _ _ (.Subscript _ _ _) _); refine WE_item ?_) | ((with_reducible show WE _ _ _ _ _ _ (.UnaryOp _ _ _) _); refine WE_unary ?_) | ((with_reducible show WP _ _ _ _ _ _ (some _) _); refine WP_some ?_) | ((with_reducible show WP _ _ _ _ _ _ none _); refine WP_none ?_) | ((with_reducible show WEs _ _ _ _ _ _ (_ :: _) _); refine WEs_cons ?_) | ((with_reducible show WEs _ _ _ _ _ _ [] _); refine WEs_nil ?_) | ((with_reducible show BO _ _ _ .Mult (.flt _) (.flt _) _); refine BO_mul_ff ?_) | ((with_reducible show BO _ _ _ .Add (.flt _) (.flt _) _); refine BO_add_ff ?_) | ((with_reducible show BO _ _ _ .Sub (.flt _) (.flt _) _); refine BO_sub_ff ?_) | ((with_reducible show BO _ _ _ .Add (.int _) (.int _) _); refine BO_add_ii ?_) | ((with_reducible show BO _ _ _ .Sub (.int _) (.int _) _); refine BO_sub_ii ?_) | ((with_reducible show BO _ _ _ .Mult (.int _) (.int _) _); refine BO_mul_ii (by first | exact mulL (by omega) (by omega) | exact mulR (by omega) (by omega)) ?_) | ((with_reducible show BO _ _ _ .Pow (.int _) (.int _) _); first | refine BO_pow_eq pow40 (by decide) (by decide) ?_ | refine BO_pow_eq pow52 (by decide) (by decide) ?_ | refine BO_pow_eq pow53 (by decide) (by decide) ?_ | refine BO_pow2 (by omega) (by omega) ?_) | ((with_reducible show BO _ _ _ .Mod (.int _) (.int _) _); refine BO_mod_p (by omega) ?_) | ((with_reducible show BO _ _ _ .FloorDiv (.int _) (.int _) _); refine BO_div_p (by omega) (by omega) ?_) | ((with_reducible show BO _ _ _ .Div (.int _) (.int _) _); refine BO_div_s (Rm.handled (by first | assumption | apply_assumption)) (by omega) (by omega) (by omega) ?_) | ((with_reducible show IO _ _ _ (.tup _) (.int (OfNat.ofNat _)) _); refine IO_ti (by decide) rfl (by decide) ?_) | ((with_reducible show UO _ _ _ .USub (.int _) _); refine UO_neg_i ?_))
          refine ⟨by simp, ?_⟩
          refine ⟨_, .inr rfl, rfl, ?_⟩
          exact WS_nil ⟨rfl, 0, 0, by omega, by omega, hT0 z0, k1, k2, k3, k4, k5, k6, k7, k8, rfl, k10, rfl, rfl⟩
        · rw [show (s * l * (2 ^ cn - l) == 0) = false from beq_eq_false_iff_ne.mpr z0]
          show WS _ _ _ _ _ _ _ _
          exact WS_nil ⟨rfl, _, s, hs, ⟨h6a, h6b⟩, hT1 z0, k1, k2, k3, k4, k5, k6, k7, k8, k9, k10, rfl, rfl⟩
      clear hT0 hT1 k1 k2 k3 k4 k5 k6 k7 k8 k9 k10 c1 c2 c3 c4 c5 c6 h6a h6b h1a h1b h8a h8b
      rintro oo σ ⟨rfl, hue, s, hs, hhue, hT, k1, k2, k3, k4, k5, k6, k7, k8, k9, k10, k11, k12⟩
      refine WS_cons ?_
      refine WX_if (WT_or (WT_compare ?_))
      refine WE_from ?_
      repeat (first | ((with_reducible show WE _ _ _ _ _ _ (.BinOp _ _ _ _) _); refine WE_binop ?_) | ((with_reducible show WE _ _ _ _ _ _ (.Constant (.float _) _ _) _); refine WE_flt ?_) | ((with_reducible show WE _ _ _ _ _ _ (.Constant (.int _) _ _) _); refine WE_int ?_) | ((with_reducible show WE _ _ _ _ _ _ (.Constant (.bool _) _ _) _); refine WE_bool ?_) | ((with_reducible show WE _ _ _ _ _ _ (.Name _ _) _); first | refine WE_name rfl ?_ | refine WE_name (by assumption) ?_ | refine WE_name (comp_get (by assumption)) ?_) | ((with_reducible show WE _ _ _ _ _ _ (.Tuple _ _ _) _); refine WE_tuple ?_) | ((with_reducible show WE _ _ _ _ _ _ (.List _ _) _); refine WE_list ?_) | ((with_reducible show WE _ _ _ _ _ _ (.Subscript _ (.Slice _ _ none _) _) _); refine WE_cut ?_) | ((with_reducible show WE _ _ _ _ _ _ (.Subscript _ _ _) _); refine WE_item ?_) | ((with_reducible show WE _ _ _ _ _ _ (.UnaryOp _ _ _) _); refine WE_unary ?_) | ((with_reducible show WP _ _ _ _ _ _ (some _) _); refine WP_some ?_) | ((with_reducible show WP _ _ _ _ _ _ none _); refine WP_none ?_) | ((with_reducible show WEs _ _ _ _ _ _ (_ :: _) _); refine WEs_cons ?_) | ((with_reducible show WEs _ _ _ _ _ _ [] _); refine WEs_nil ?_) | ((with_reducible show BO _ _ _ .Mult (.flt _) (.flt _) _); refine BO_mul_ff ?_) | ((with_reducible show BO _ _ _ .Add (.flt _) (.flt _) _); refine BO_add_ff ?_) | ((with_reducible show BO _ _ _ .Sub (.flt _) (.flt _) _); refine BO_sub_ff ?_) | ((with_reducible show BO _ _ _ .Add (.int _) (.int _) _); refine BO_add_ii ?_) | ((with_reducible show BO _ _ _ .Sub (.int _) (.int _) _); refine BO_sub_ii ?_) | ((with_reducible show BO _ _ _ .Mult (.int _) (.int _) _); refine BO_mul_ii (by first | exact mulL (by omega) (by omega) | exact mulR (by omega) (by omega)) ?_) | ((with_reducible show BO _ _ _ .Pow (.int _) (.int _) _); first | refine BO_pow_eq pow40 (by decide) (by decide) ?_ | refine BO_pow_eq pow52 (by decide) (by decide) ?_ | refine BO_pow_eq pow53 (by decide) (by decide) ?_ | refine BO_pow2 (by omega) (by omega) ?_) | ((with_reducible show BO _ _ _ .Mod (.int _) (.int _) _); refine BO_mod_p (by omega) ?_) | ((with_reducible show BO _ _ _ .FloorDiv (.int _) (.int _) _); refine BO_div_p (by omega) (by omega) ?_) | ((with_reducible show BO _ _ _ .Div (.int _) (.int _) _); refine BO_div_s (Rm.handled (by first | assumption | apply_assumption)) (by omega) (by omega) (by omega) ?_) | ((with_reducible show IO _ _ _ (.tup _) (.int (OfNat.ofNat _)) _); refine IO_ti (by decide) rfl (by decide) ?_) | ((with_reducible show UO _ _ _ .USub (.int _) _); refine UO_neg_i ?_))
      refine ⟨_, 1, rfl, rfl, by decide, by simp, by simp, ?_⟩
      repeat (first | ((with_reducible show WE _ _ _ _ _ _ (.BinOp _ _ _ _) _); refine WE_binop ?_) | ((with_reducible show WE _ _ _ _ _ _ (.Constant (.float _) _ _) _); refine WE_flt ?_) | ((with_reducible show WE _ _ _ _ _ _ (.Constant (.int _) _ _) _); refine WE_int ?_) | ((with_reducible show WE _ _ _ _ _ _ (.Constant (.bool _) _ _) _); refine WE_bool ?_) | ((with_reducible show WE _ _ _ _ _ _ (.Name _ _) _); first | refine WE_name rfl ?_ | refine WE_name (by assumption) ?_ | refine WE_name (comp_get (by assumption)) ?_) | ((with_reducible show WE _ _ _ _ _ _ (.Tuple _ _ _) _); refine WE_tuple ?_) | ((with_reducible show WE _ _ _ _ _ _ (.List _ _) _); refine WE_list ?_) | ((with_reducible show WE _ _ _ _ _ _ (.Subscript _ (.Slice _ _ none _) _) _); refine WE_cut ?_) | ((with_reducible show WE _ _ _ _ _ _ (.Subscript _ _ _) _); refine WE_item ?_) | ((with_reducible show WE _ _ _ _ _ _ (.UnaryOp _ _ _) _); refine WE_unary ?_) | ((with_reducible show WP _ _ _ _ _ _ (some _) _); refine WP_some ?_) | ((with_reducible show WP _ _ _ _ _ _ none _); refine WP_none ?_) | ((with_reducible show WEs _ _ _ _ _ _ (_ :: _) _); refine WEs_cons ?_) | ((with_reducible show WEs _ _ _ _ _ _ [] _); refine WEs_nil ?_) | ((with_reducible show BO _ _ _ .Mult (.flt _) (.flt _) _); refine BO_mul_ff ?_) | ((with_reducible show BO _ _ _ .Add (.flt _) (.flt _) _); refine BO_add_ff ?_) | ((with_reducible show BO _ _ _ .Sub (.flt _) (.flt _) _); refine BO_sub_ff ?_) | ((with_reducible show BO _ _ _ .Add (.int _) (.int _) _); refine BO_add_ii ?_) | ((with_reducible show BO _ _ _ .Sub (.int _) (.int _) _); refine BO_sub_ii ?_) | ((with_reducible show BO _ _ _ .Mult (.int _) (.int _) _); refine BO_mul_ii (by first | exact mulL (by omega) (by omega) | exact mulR (by omega) (by omega)) ?_) | ((with_reducible show BO _ _ _ .Pow (.int _) (.int _) _); first | refine BO_pow_eq pow40 (by decide) (by decide) ?_ | refine BO_pow_eq pow52 (by decide) (by decide) ?_ | refine BO_pow_eq pow53 (by decide) (by decide) ?_ | refine BO_pow2 (by omega) (by omega) ?_) | ((with_reducible show BO _ _ _ .Mod (.int _) (.int _) _); refine BO_mod_p (by omega) ?_) | ((with_reducible show BO _ _ _ .FloorDiv (.int _) (.int _) _); refine BO_div_p (by omega) (by omega) ?_) | ((with_reducible show BO _ _ _ .Div (.int _) (.int _) _); refine BO_div_s (Rm.handled (by first | assumption | apply_assumption)) (by omega) (by omega) (by omega) ?_) | ((with_reducible show IO _ _ _ (.tup _) (.int (OfNat.ofNat _)) _); refine IO_ti (by decide) rfl (by decide) ?_) | ((with_reducible show UO _ _ _ .USub (.int _) _); refine UO_neg_i ?_))
      refine ⟨by simp, ?_⟩
      refine CO_ne_tt GB (hA _).cl (r := true) (eqL2 hT.lit hT.sat) ?_
      show WT _ _ _ _ _ _ _ _
      refine WT_or (WT_compare ?_)
      refine WE_call_builtin GB rfl nround (by with_unfolding_all rfl) ?_
      repeat (first | ((with_reducible show WE _ _ _ _ _ _ (.BinOp _ _ _ _) _); refine WE_binop ?_) | ((with_reducible show WE _ _ _ _ _ _ (.Constant (.float _) _ _) _); refine WE_flt ?_) | ((with_reducible show WE _ _ _ _ _ _ (.Constant (.int _) _ _) _); refine WE_int ?_) | ((with_reducible show WE _ _ _ _ _ _ (.Constant (.bool _) _ _) _); refine WE_bool ?_) | ((with_reducible show WE _ _ _ _ _ _ (.Name _ _) _); first | refine WE_name rfl ?_ | refine WE_name (by assumption) ?_ | refine WE_name (comp_get (by assumption)) ?_) | ((with_reducible show WE _ _ _ _ _ _ (.Tuple _ _ _) _); refine WE_tuple ?_) | ((with_reducible show WE _ _ _ _ _ _ (.List _ _) _); refine WE_list ?_) | ((with_reducible show WE _ _ _ _ _ _ (.Subscript _ (.Slice _ _ none _) _) _); refine WE_cut ?_) | ((with_reducible show WE _ _ _ _ _ _ (.Subscript _ _ _) _); refine WE_item ?_) | ((with_reducible show WE _ _ _ _ _ _ (.UnaryOp _ _ _) _); refine WE_unary ?_) | ((with_reducible show WP _ _ _ _ _ _ (some _) _); refine WP_some ?_) | ((with_reducible show WP _ _ _ _ _ _ none _); refine WP_none ?_) | ((with_reducible show WEs _ _ _ _ _ _ (_ :: _) _); refine WEs_cons ?_) | ((with_reducible show WEs _ _ _ _ _ _ [] _); refine WEs_nil ?_) | ((with_reducible show BO _ _ _ .Mult (.flt _) (.flt _) _); refine BO_mul_ff ?_) | ((with_reducible show BO _ _ _ .Add (.flt _) (.flt _) _); refine BO_add_ff ?_) | ((with_reducible show BO _ _ _ .Sub (.flt _) (.flt _) _); refine BO_sub_ff ?_) | ((with_reducible show BO _ _ _ .Add (.int _) (.int _) _); refine BO_add_ii ?_) | ((with_reducible show BO _ _ _ .Sub (.int _) (.int _) _); refine BO_sub_ii ?_) | ((with_reducible show BO _ _ _ .Mult (.int _) (.int _) _); refine BO_mul_ii (by first | exact mulL (by omega) (by omega) | exact mulR (by omega) (by omega)) ?_) | ((with_reducible show BO _ _ _ .Pow (.int _) (.int _) _); first | refine BO_pow_eq pow40 (by decide) (by decide) ?_ | refine BO_pow_eq pow52 (by decide) (by decide) ?_ | refine BO_pow_eq pow53 (by decide) (by decide) ?_ | refine BO_pow2 (by omega) (by omega) ?_) | ((with_reducible show BO _ _ _ .Mod (.int _) (.int _) _); refine BO_mod_p (by omega) ?_) | ((with_reducible show BO _ _ _ .FloorDiv (.int _) (.int _) _); refine BO_div_p (by omega) (by omega) ?_) | ((with_reducible show BO _ _ _ .Div (.int _) (.int _) _); refine BO_div_s (Rm.handled (by first | assumption | apply_assumption)) (by omega) (by omega) (by omega) ?_) | ((with_reducible show IO _ _ _ (.tup _) (.int (OfNat.ofNat _)) _); refine IO_ti (by decide) rfl (by decide) ?_) | ((with_reducible show UO _ _ _ .USub (.int _) _); refine UO_neg_i ?_))
      refine BO_mul_fi (by decide) ?_
      repeat (first | ((with_reducible show WE _ _ _ _ _ _ (.BinOp _ _ _ _) _); refine WE_binop ?_) | ((with_reducible show WE _ _ _ _ _ _ (.Constant (.float _) _ _) _); refine WE_flt ?_) | ((with_reducible show WE _ _ _ _ _ _ (.Constant (.int _) _ _) _); refine WE_int ?_) | ((with_reducible show WE _ _ _ _ _ _ (.Constant (.bool _) _ _) _); refine WE_bool ?_) | ((with_reducible show WE _ _ _ _ _ _ (.Name _ _) _); first | refine WE_name rfl ?_ | refine WE_name (by assumption) ?_ | refine WE_name (comp_get (by assumption)) ?_) | ((with_reducible show WE _ _ _ _ _ _ (.Tuple _ _ _) _); refine WE_tuple ?_) | ((with_reducible show WE _ _ _ _ _ _ (.List _ _) _); refine WE_list ?_) | ((with_reducible show WE _ _ _ _ _ _ (.Subscript _ (.Slice _ _ none _) _) _); refine WE_cut ?_) | ((with_reducible show WE _ _ _ _ _ _ (.Subscript _ _ _) _); refine WE_item ?_) | ((with_reducible show WE _ _ _ _ _ _ (.UnaryOp _ _ _) _); refine WE_unary ?_) | ((with_reducible show WP _ _ _ _ _ _ (some _) _); refine WP_some ?_) | ((with_reducible show WP _ _ _ _ _ _ none _); refine WP_none ?_) | ((with_reducible show WEs _ _ _ _ _ _ (_ :: _) _); refine WEs_cons ?_) | ((with_reducible show WEs _ _ _ _ _ _ [] _); refine WEs_nil ?_) | ((with_reducible show BO _ _ _ .Mult (.flt _) (.flt _) _); refine BO_mul_ff ?_) | ((with_reducible show BO _ _ _ .Add (.flt _) (.flt _) _); refine BO_add_ff ?_) | ((with_reducible show BO _ _ _ .Sub (.flt _) (.flt _) _); refine BO_sub_ff ?_) | ((with_reducible show BO _ _ _ .Add (.int _) (.int _) _); refine BO_add_ii ?_) | ((with_reducible show BO _ _ _ .Sub (.int _) (.int _) _); refine BO_sub_ii ?_) | ((with_reducible show BO _ _ _ .Mult (.int _) (.int _) _); refine BO_mul_ii (by first | exact mulL (by omega) (by omega) | exact mulR (by omega) (by omega)) ?_) | ((with_reducible show BO _ _ _ .Pow (.int _) (.int _) _); first | refine BO_pow_eq pow40 (by decide) (by decide) ?_ | refine BO_pow_eq pow52 (by decide) (by decide) ?_ | refine BO_pow_eq pow53 (by decide) (by decide) ?_ | refine BO_pow2 (by omega) (by omega) ?_) | ((with_reducible show BO _ _ _ .Mod (.int _) (.int _) _); refine BO_mod_p (by omega) ?_) | ((with_reducible show BO _ _ _ .FloorDiv (.int _) (.int _) _); refine BO_div_p (by omega) (by omega) ?_) | ((with_reducible show BO _ _ _ .Div (.int _) (.int _) _); refine BO_div_s (Rm.handled (by first | assumption | apply_assumption)) (by omega) (by omega) (by omega) ?_) | ((with_reducible show IO _ _ _ (.tup _) (.int (OfNat.ofNat _)) _); refine IO_ti (by decide) rfl (by decide) ?_) | ((with_reducible show UO _ _ _ .USub (.int _) _); refine UO_neg_i ?_))
      refine BO_mul_fi (small1023 (by omega) (by omega)) ?_
      repeat (first | ((with_reducible show WE _ _ _ _ _ _ (.BinOp _ _ _ _) _); refine WE_binop ?_) | ((with_reducible show WE _ _ _ _ _ _ (.Constant (.float _) _ _) _); refine WE_flt ?_) | ((with_reducible show WE _ _ _ _ _ _ (.Constant (.int _) _ _) _); refine WE_int ?_) | ((with_reducible show WE _ _ _ _ _ _ (.Constant (.bool _) _ _) _); refine WE_bool ?_) | ((with_reducible show WE _ _ _ _ _ _ (.Name _ _) _); first | refine WE_name rfl ?_ | refine WE_name (by assumption) ?_ | refine WE_name (comp_get (by assumption)) ?_) | ((with_reducible show WE _ _ _ _ _ _ (.Tuple _ _ _) _); refine WE_tuple ?_) | ((with_reducible show WE _ _ _ _ _ _ (.List _ _) _); refine WE_list ?_) | ((with_reducible show WE _ _ _ _ _ _ (.Subscript _ (.Slice _ _ none _) _) _); refine WE_cut ?_) | ((with_reducible show WE _ _ _ _ _ _ (.Subscript _ _ _) _); refine WE_item ?_) | ((with_reducible show WE _ _ _ _ _ _ (.UnaryOp _ _ _) _); refine WE_unary ?_) | ((with_reducible show WP _ _ _ _ _ _ (some _) _); refine WP_some ?_) | ((with_reducible show WP _ _ _ _ _ _ none _); refine WP_none ?_) | ((with_reducible show WEs _ _ _ _ _ _ (_ :: _) _); refine WEs_cons ?_) | ((with_reducible show WEs _ _ _ _ _ _ [] _); refine WEs_nil ?_) | ((with_reducible show BO _ _ _ .Mult (.flt _) (.flt _) _); refine BO_mul_ff ?_) | ((with_reducible show BO _ _ _ .Add (.flt _) (.flt _) _); refine BO_add_ff ?_) | ((with_reducible show BO _ _ _ .Sub (.flt _) (.flt _) _); refine BO_sub_ff ?_) | ((with_reducible show BO _ _ _ .Add (.int _) (.int _) _); refine BO_add_ii ?_) | ((with_reducible show BO _ _ _ .Sub (.int _) (.int _) _); refine BO_sub_ii ?_) | ((with_reducible show BO _ _ _ .Mult (.int _) (.int _) _); refine BO_mul_ii (by first | exact mulL (by omega) (by omega) | exact mulR (by omega) (by omega)) ?_) | ((with_reducible show BO _ _ _ .Pow (.int _) (.int _) _); first | refine BO_pow_eq pow40 (by decide) (by decide) ?_ | refine BO_pow_eq pow52 (by decide) (by decide) ?_ | refine BO_pow_eq pow53 (by decide) (by decide) ?_ | refine BO_pow2 (by omega) (by omega) ?_) | ((with_reducible show BO _ _ _ .Mod (.int _) (.int _) _); refine BO_mod_p (by omega) ?_) | ((with_reducible show BO _ _ _ .FloorDiv (.int _) (.int _) _); refine BO_div_p (by omega) (by omega) ?_) | ((with_reducible show BO _ _ _ .Div (.int _) (.int _) _); refine BO_div_s (Rm.handled (by first | assumption | apply_assumption)) (by omega) (by omega) (by omega) ?_) | ((with_reducible show IO _ _ _ (.tup _) (.int (OfNat.ofNat _)) _); refine IO_ti (by decide) rfl (by decide) ?_) | ((with_reducible show UO _ _ _ .USub (.int _) _); refine UO_neg_i ?_))
      refine WC_round (hA _).handled hT.fin ?_
      rw [hT.rnd]
      repeat (first | ((with_reducible show WE _ _ _ _ _ _ (.BinOp _ _ _ _) _); refine WE_binop ?_) | ((with_reducible show WE _ _ _ _ _ _ (.Constant (.float _) _ _) _); refine WE_flt ?_) | ((with_reducible show WE _ _ _ _ _ _ (.Constant (.int _) _ _) _); refine WE_int ?_) | ((with_reducible show WE _ _ _ _ _ _ (.Constant (.bool _) _ _) _); refine WE_bool ?_) | ((with_reducible show WE _ _ _ _ _ _ (.Name _ _) _); first | refine WE_name rfl ?_ | refine WE_name (by assumption) ?_ | refine WE_name (comp_get (by assumption)) ?_) | ((with_reducible show WE _ _ _ _ _ _ (.Tuple _ _ _) _); refine WE_tuple ?_) | ((with_reducible show WE _ _ _ _ _ _ (.List _ _) _); refine WE_list ?_) | ((with_reducible show WE _ _ _ _ _ _ (.Subscript _ (.Slice _ _ none _) _) _); refine WE_cut ?_) | ((with_reducible show WE _ _ _ _ _ _ (.Subscript _ _ _) _); refine WE_item ?_) | ((with_reducible show WE _ _ _ _ _ _ (.UnaryOp _ _ _) _); refine WE_unary ?_) | ((with_reducible show WP _ _ _ _ _ _ (some _) _); refine WP_some ?_) | ((with_reducible show WP _ _ _ _ _ _ none _); refine WP_none ?_) | ((with_reducible show WEs _ _ _ _ _ _ (_ :: _) _); refine WEs_cons ?_) | ((with_reducible show WEs _ _ _ _ _ _ [] _); refine WEs_nil ?_) | ((with_reducible show BO _ _ _ .Mult (.flt _) (.flt _) _); refine BO_mul_ff ?_) | ((with_reducible show BO _ _ _ .Add (.flt _) (.flt _) _); refine BO_add_ff ?_) | ((with_reducible show BO _ _ _ .Sub (.flt _) (.flt _) _); refine BO_sub_ff ?_) | ((with_reducible show BO _ _ _ .Add (.int _) (.int _) _); refine BO_add_ii ?_) | ((with_reducible show BO _ _ _ .Sub (.int _) (.int _) _); refine BO_sub_ii ?_) | ((with_reducible show BO _ _ _ .Mult (.int _) (.int _) _); refine BO_mul_ii (by first | exact mulL (by omega) (by omega) | exact mulR (by omega) (by omega)) ?_) | ((with_reducible show BO _ _ _ .Pow (.int _) (.int _) _); first | refine BO_pow_eq pow40 (by decide) (by decide) ?_ | refine BO_pow_eq pow52 (by decide) (by decide) ?_ | refine BO_pow_eq pow53 (by decide) (by decide) ?_ | refine BO_pow2 (by omega) (by omega) ?_) | ((with_reducible show BO _ _ _ .Mod (.int _) (.int _) _); refine BO_mod_p (by omega) ?_) | ((with_reducible show BO _ _ _ .FloorDiv (.int _) (.int _) _); refine BO_div_p (by omega) (by omega) ?_) | ((with_reducible show BO _ _ _ .Div (.int _) (.int _) _); refine BO_div_s (Rm.handled (by first | assumption | apply_assumption)) (by omega) (by omega) (by omega) ?_) | ((with_reducible show IO _ _ _ (.tup _) (.int (OfNat.ofNat _)) _); refine IO_ti (by decide) rfl (by decide) ?_) | ((with_reducible show UO _ _ _ .USub (.int _) _); refine UO_neg_i ?_))
      refine CO_ne_ii ?_
      rw [show (hue != hue) = false by simp]
      show WT _ _ _ _ _ _ _ _
      refine WT_or_nil ?_
      show WS _ _ _ _ _ _ _ _
      refine WS_nil ?_
      refine WS_cons ?_
      refine WX_if (WT_or (WT.mono (Q := fun c => c = false) ?_ ?_))
      · refine WT_and (WT_compare ?_)
        repeat (first | ((with_reducible show WE _ _ _ _ _ _ (.BinOp _ _ _ _) _); refine WE_binop ?_) | ((with_reducible show WE _ _ _ _ _ _ (.Constant (.float _) _ _) _); refine WE_flt ?_) | ((with_reducible show WE _ _ _ _ _ _ (.Constant (.int _) _ _) _); refine WE_int ?_) | ((with_reducible show WE _ _ _ _ _ _ (.Constant (.bool _) _ _) _); refine WE_bool ?_) | ((with_reducible show WE _ _ _ _ _ _ (.Name _ _) _); first | refine WE_name rfl ?_ | refine WE_name (by assumption) ?_ | refine WE_name (comp_get (by assumption)) ?_) | ((with_reducible show WE _ _ _ _ _ _ (.Tuple _ _ _) _); refine WE_tuple ?_) | ((with_reducible show WE _ _ _ _ _ _ (.List _ _) _); refine WE_list ?_) | ((with_reducible show WE _ _ _ _ _ _ (.Subscript _ (.Slice _ _ none _) _) _); refine WE_cut ?_) | ((with_reducible show WE _ _ _ _ _ _ (.Subscript _ _ _) _); refine WE_item ?_) | ((with_reducible show WE _ _ _ _ _ _ (.UnaryOp _ _ _) _); refine WE_unary ?_) | ((with_reducible show WP _ _ _ _ _ _ (some _) _); refine WP_some ?_) | ((with_reducible show WP _ _ _ _ _ _ none _); refine WP_none ?_) | ((with_reducible show WEs _ _ _ _ _ _ (_ :: _) _); refine WEs_cons ?_) | ((with_reducible show WEs _ _ _ _ _ _ [] _); refine WEs_nil ?_) | ((with_reducible show BO _ _ _ .Mult (.flt _) (.flt _) _); refine BO_mul_ff ?_) | ((with_reducible show BO _ _ _ .Add (.flt _) (.flt _) _); refine BO_add_ff ?_) | ((with_reducible show BO _ _ _ .Sub (.flt _) (.flt _) _); refine BO_sub_ff ?_) | ((with_reducible show BO _ _ _ .Add (.int _) (.int _) _); refine BO_add_ii ?_) | ((with_reducible show BO _ _ _ .Sub (.int _) (.int _) _); refine BO_sub_ii ?_) | ((with_reducible show BO _ _ _ .Mult (.int _) (.int _) _); refine BO_mul_ii (by first | exact mulL (by omega) (by omega) | exact mulR (by omega) (by omega)) ?_) | ((with_reducible show BO _ _ _ .Pow (.int _) (.int _) _); first | refine BO_pow_eq pow40 (by decide) (by decide) ?_ | refine BO_pow_eq pow52 (by decide) (by decide) ?_ | refine BO_pow_eq pow53 (by decide) (by decide) ?_ | refine BO_pow2 (by omega) (by omega) ?_) | ((with_reducible show BO _ _ _ .Mod (.int _) (.int _) _); refine BO_mod_p (by omega) ?_) | ((with_reducible show BO _ _ _ .FloorDiv (.int _) (.int _) _); refine BO_div_p (by omega) (by omega) ?_) | ((with_reducible show BO _ _ _ .Div (.int _) (.int _) _); refine BO_div_s (Rm.handled (by first | assumption | apply_assumption)) (by omega) (by omega) (by omega) ?_) | ((with_reducible show IO _ _ _ (.tup _) (.int (OfNat.ofNat _)) _); refine IO_ti (by decide) rfl (by decide) ?_) | ((with_reducible show UO _ _ _ .USub (.int _) _); refine UO_neg_i ?_))
        refine CO_eq_ii ?_
        by_cases t0 : hue % 3 = 0
        · rw [show (hue % 3 == 0) = true from beq_iff_eq.mpr t0]
          show WT _ _ _ _ _ _ _ _
          refine WT_and (WT_compare ?_)
          repeat (first | ((with_reducible show WE _ _ _ _ _ _ (.BinOp _ _ _ _) _); refine WE_binop ?_) | ((with_reducible show WE _ _ _ _ _ _ (.Constant (.float _) _ _) _); refine WE_flt ?_) | ((with_reducible show WE _ _ _ _ _ _ (.Constant (.int _) _ _) _); refine WE_int ?_) | ((with_reducible show WE _ _ _ _ _ _ (.Constant (.bool _) _ _) _); refine WE_bool ?_) | ((with_reducible show WE _ _ _ _ _ _ (.Name _ _) _); first | refine WE_name rfl ?_ | refine WE_name (by assumption) ?_ | refine WE_name (comp_get (by assumption)) ?_) | ((with_reducible show WE _ _ _ _ _ _ (.Tuple _ _ _) _); refine WE_tuple ?_) | ((with_reducible show WE _ _ _ _ _ _ (.List _ _) _); refine WE_list ?_) | ((with_reducible show WE _ _ _ _ _ _ (.Subscript _ (.Slice _ _ none _) _) _); refine WE_cut ?_) | ((with_reducible show WE _ _ _ _ _ _ (.Subscript _ _ _) _); refine WE_item ?_) | ((with_reducible show WE _ _ _ _ _ _ (.UnaryOp _ _ _) _); refine WE_unary ?_) | ((with_reducible show WP _ _ _ _ _ _ (some _) _); refine WP_some ?_) | ((with_reducible show WP _ _ _ _ _ _ none _); refine WP_none ?_) | ((with_reducible show WEs _ _ _ _ _ _ (_ :: _) _); refine WEs_cons ?_) | ((with_reducible show WEs _ _ _ _ _ _ [] _); refine WEs_nil ?_) | ((with_reducible show BO _ _ _ .Mult (.flt _) (.flt _) _); refine BO_mul_ff ?_) | ((with_reducible show BO _ _ _ .Add (.flt _) (.flt _) _); refine BO_add_ff ?_) | ((with_reducible show BO _ _ _ .Sub (.flt _) (.flt _) _); refine BO_sub_ff ?_) | ((with_reducible show BO _ _ _ .Add (.int _) (.int _) _); refine BO_add_ii ?_) | ((with_reducible show BO _ _ _ .Sub (.int _) (.int _) _); refine BO_sub_ii ?_) | ((with_reducible show BO _ _ _ .Mult (.int _) (.int _) _); refine BO_mul_ii (by first | exact mulL (by omega) (by omega) | exact mulR (by omega) (by omega)) ?_) | ((with_reducible show BO _ _ _ .Pow (.int _) (.int _) _); first | refine BO_pow_eq pow40 (by decide) (by decide) ?_ | refine BO_pow_eq pow52 (by decide) (by decide) ?_ | refine BO_pow_eq pow53 (by decide) (by decide) ?_ | refine BO_pow2 (by omega) (by omega) ?_) | ((with_reducible show BO _ _ _ .Mod (.int _) (.int _) _); refine BO_mod_p (by omega) ?_) | ((with_reducible show BO _ _ _ .FloorDiv (.int _) (.int _) _); refine BO_div_p (by omega) (by omega) ?_) | ((with_reducible show BO _ _ _ .Div (.int _) (.int _) _); refine BO_div_s (Rm.handled (by first | assumption | apply_assumption)) (by omega) (by omega) (by omega) ?_) | ((with_reducible show IO _ _ _ (.tup _) (.int (OfNat.ofNat _)) _); refine IO_ti (by decide) rfl (by decide) ?_) | ((with_reducible show UO _ _ _ .USub (.int _) _); refine UO_neg_i ?_))
          refine CO_ne_ff ?_
          rw [neC (hT.third t0)]
          rfl
        · rw [show (hue % 3 == 0) = false from beq_eq_false_iff_ne.mpr t0]
          rfl
      rintro c rfl
      show WT _ _ _ _ _ _ _ _
      refine WT_or (WT_compare ?_)
      refine WE_listcomp (compOk rfl) (WI_tup (hA _).handled ?_)
      repeat (first | ((with_reducible show WE _ _ _ _ _ _ (.BinOp _ _ _ _) _); refine WE_binop ?_) | ((with_reducible show WE _ _ _ _ _ _ (.Constant (.float _) _ _) _); refine WE_flt ?_) | ((with_reducible show WE _ _ _ _ _ _ (.Constant (.int _) _ _) _); refine WE_int ?_) | ((with_reducible show WE _ _ _ _ _ _ (.Constant (.bool _) _ _) _); refine WE_bool ?_) | ((with_reducible show WE _ _ _ _ _ _ (.Name _ _) _); first | refine WE_name rfl ?_ | refine WE_name (by assumption) ?_ | refine WE_name (comp_get (by assumption)) ?_) | ((with_reducible show WE _ _ _ _ _ _ (.Tuple _ _ _) _); refine WE_tuple ?_) | ((with_reducible show WE _ _ _ _ _ _ (.List _ _) _); refine WE_list ?_) | ((with_reducible show WE _ _ _ _ _ _ (.Subscript _ (.Slice _ _ none _) _) _); refine WE_cut ?_) | ((with_reducible show WE _ _ _ _ _ _ (.Subscript _ _ _) _); refine WE_item ?_) | ((with_reducible show WE _ _ _ _ _ _ (.UnaryOp _ _ _) _); refine WE_unary ?_) | ((with_reducible show WP _ _ _ _ _ _ (some _) _); refine WP_some ?_) | ((with_reducible show WP _ _ _ _ _ _ none _); refine WP_none ?_) | ((with_reducible show WEs _ _ _ _ _ _ (_ :: _) _); refine WEs_cons ?_) | ((with_reducible show WEs _ _ _ _ _ _ [] _); refine WEs_nil ?_) | ((with_reducible show BO _ _ _ .Mult (.flt _) (.flt _) _); refine BO_mul_ff ?_) | ((with_reducible show BO _ _ _ .Add (.flt _) (.flt _) _); refine BO_add_ff ?_) | ((with_reducible show BO _ _ _ .Sub (.flt _) (.flt _) _); refine BO_sub_ff ?_) | ((with_reducible show BO _ _ _ .Add (.int _) (.int _) _); refine BO_add_ii ?_) | ((with_reducible show BO _ _ _ .Sub (.int _) (.int _) _); refine BO_sub_ii ?_) | ((with_reducible show BO _ _ _ .Mult (.int _) (.int _) _); refine BO_mul_ii (by first | exact mulL (by omega) (by omega) | exact mulR (by omega) (by omega)) ?_) | ((with_reducible show BO _ _ _ .Pow (.int _) (.int _) _); first | refine BO_pow_eq pow40 (by decide) (by decide) ?_ | refine BO_pow_eq pow52 (by decide) (by decide) ?_ | refine BO_pow_eq pow53 (by decide) (by decide) ?_ | refine BO_pow2 (by omega) (by omega) ?_) | ((with_reducible show BO _ _ _ .Mod (.int _) (.int _) _); refine BO_mod_p (by omega) ?_) | ((with_reducible show BO _ _ _ .FloorDiv (.int _) (.int _) _); refine BO_div_p (by omega) (by omega) ?_) | ((with_reducible show BO _ _ _ .Div (.int _) (.int _) _); refine BO_div_s (Rm.handled (by first | assumption | apply_assumption)) (by omega) (by omega) (by omega) ?_) | ((with_reducible show IO _ _ _ (.tup _) (.int (OfNat.ofNat _)) _); refine IO_ti (by decide) rfl (by decide) ?_) | ((with_reducible show UO _ _ _ .USub (.int _) _); refine UO_neg_i ?_))
      refine BO_add_tt (by simp) (by simp) (by simp) ?_
      refine ⟨_, rfl, by simp, fun C cl => CompP_map (fun _ => .typ "float") _ _ ?_ ?_⟩
      · intro d hd
        have : ∃ x, d = .flt x := by
          simp only [List.mem_append, List.mem_cons, List.not_mem_nil, or_false] at hd
          rcases hd with (rfl | rfl | rfl) | (rfl | rfl | rfl) <;> exact ⟨_, rfl⟩
        obtain ⟨x, rfl⟩ := this
        refine WE_call_type GB rfl ntype (by with_unfolding_all rfl) ?_
        repeat (first | ((with_reducible show WE _ _ _ _ _ _ (.BinOp _ _ _ _) _); refine WE_binop ?_) | ((with_reducible show WE _ _ _ _ _ _ (.Constant (.float _) _ _) _); refine WE_flt ?_) | ((with_reducible show WE _ _ _ _ _ _ (.Constant (.int _) _ _) _); refine WE_int ?_) | ((with_reducible show WE _ _ _ _ _ _ (.Constant (.bool _) _ _) _); refine WE_bool ?_) | ((with_reducible show WE _ _ _ _ _ _ (.Name _ _) _); first | refine WE_name rfl ?_ | refine WE_name (by assumption) ?_ | refine WE_name (comp_get (by assumption)) ?_) | ((with_reducible show WE _ _ _ _ _ _ (.Tuple _ _ _) _); refine WE_tuple ?_) | ((with_reducible show WE _ _ _ _ _ _ (.List _ _) _); refine WE_list ?_) | ((with_reducible show WE _ _ _ _ _ _ (.Subscript _ (.Slice _ _ none _) _) _); refine WE_cut ?_) | ((with_reducible show WE _ _ _ _ _ _ (.Subscript _ _ _) _); refine WE_item ?_) | ((with_reducible show WE _ _ _ _ _ _ (.UnaryOp _ _ _) _); refine WE_unary ?_) | ((with_reducible show WP _ _ _ _ _ _ (some _) _); refine WP_some ?_) | ((with_reducible show WP _ _ _ _ _ _ none _); refine WP_none ?_) | ((with_reducible show WEs _ _ _ _ _ _ (_ :: _) _); refine WEs_cons ?_) | ((with_reducible show WEs _ _ _ _ _ _ [] _); refine WEs_nil ?_) | ((with_reducible show BO _ _ _ .Mult (.flt _) (.flt _) _); refine BO_mul_ff ?_) | ((with_reducible show BO _ _ _ .Add (.flt _) (.flt _) _); refine BO_add_ff ?_) | ((with_reducible show BO _ _ _ .Sub (.flt _) (.flt _) _); refine BO_sub_ff ?_) | ((with_reducible show BO _ _ _ .Add (.int _) (.int _) _); refine BO_add_ii ?_) | ((with_reducible show BO _ _ _ .Sub (.int _) (.int _) _); refine BO_sub_ii ?_) | ((with_reducible show BO _ _ _ .Mult (.int _) (.int _) _); refine BO_mul_ii (by first | exact mulL (by omega) (by omega) | exact mulR (by omega) (by omega)) ?_) | ((with_reducible show BO _ _ _ .Pow (.int _) (.int _) _); first | refine BO_pow_eq pow40 (by decide) (by decide) ?_ | refine BO_pow_eq pow52 (by decide) (by decide) ?_ | refine BO_pow_eq pow53 (by decide) (by decide) ?_ | refine BO_pow2 (by omega) (by omega) ?_) | ((with_reducible show BO _ _ _ .Mod (.int _) (.int _) _); refine BO_mod_p (by omega) ?_) | ((with_reducible show BO _ _ _ .FloorDiv (.int _) (.int _) _); refine BO_div_p (by omega) (by omega) ?_) | ((with_reducible show BO _ _ _ .Div (.int _) (.int _) _); refine BO_div_s (Rm.handled (by first | assumption | apply_assumption)) (by omega) (by omega) (by omega) ?_) | ((with_reducible show IO _ _ _ (.tup _) (.int (OfNat.ofNat _)) _); refine IO_ti (by decide) rfl (by decide) ?_) | ((with_reducible show UO _ _ _ .USub (.int _) _); refine UO_neg_i ?_))
        exact WC_type_f rfl
      refine WE_binop ?_
      refine WE_list ?_
      refine WEs_cons ?_
      refine WE_type GB rfl nfloat (by with_unfolding_all rfl) ?_
      repeat (first | ((with_reducible show WE _ _ _ _ _ _ (.BinOp _ _ _ _) _); refine WE_binop ?_) | ((with_reducible show WE _ _ _ _ _ _ (.Constant (.float _) _ _) _); refine WE_flt ?_) | ((with_reducible show WE _ _ _ _ _ _ (.Constant (.int _) _ _) _); refine WE_int ?_) | ((with_reducible show WE _ _ _ _ _ _ (.Constant (.bool _) _ _) _); refine WE_bool ?_) | ((with_reducible show WE _ _ _ _ _ _ (.Name _ _) _); first | refine WE_name rfl ?_ | refine WE_name (by assumption) ?_ | refine WE_name (comp_get (by assumption)) ?_) | ((with_reducible show WE _ _ _ _ _ _ (.Tuple _ _ _) _); refine WE_tuple ?_) | ((with_reducible show WE _ _ _ _ _ _ (.List _ _) _); refine WE_list ?_) | ((with_reducible show WE _ _ _ _ _ _ (.Subscript _ (.Slice _ _ none _) _) _); refine WE_cut ?_) | ((with_reducible show WE _ _ _ _ _ _ (.Subscript _ _ _) _); refine WE_item ?_) | ((with_reducible show WE _ _ _ _ _ _ (.UnaryOp _ _ _) _); refine WE_unary ?_) | ((with_reducible show WP _ _ _ _ _ _ (some _) _); refine WP_some ?_) | ((with_reducible show WP _ _ _ _ _ _ none _); refine WP_none ?_) | ((with_reducible show WEs _ _ _ _ _ _ (_ :: _) _); refine WEs_cons ?_) | ((with_reducible show WEs _ _ _ _ _ _ [] _); refine WEs_nil ?_) | ((with_reducible show BO _ _ _ .Mult (.flt _) (.flt _) _); refine BO_mul_ff ?_) | ((with_reducible show BO _ _ _ .Add (.flt _) (.flt _) _); refine BO_add_ff ?_) | ((with_reducible show BO _ _ _ .Sub (.flt _) (.flt _) _); refine BO_sub_ff ?_) | ((with_reducible show BO _ _ _ .Add (.int _) (.int _) _); refine BO_add_ii ?_) | ((with_reducible show BO _ _ _ .Sub (.int _) (.int _) _); refine BO_sub_ii ?_) | ((with_reducible show BO _ _ _ .Mult (.int _) (.int _) _); refine BO_mul_ii (by first | exact mulL (by omega) (by omega) | exact mulR (by omega) (by omega)) ?_) | ((with_reducible show BO _ _ _ .Pow (.int _) (.int _) _); first | refine BO_pow_eq pow40 (by decide) (by decide) ?_ | refine BO_pow_eq pow52 (by decide) (by decide) ?_ | refine BO_pow_eq pow53 (by decide) (by decide) ?_ | refine BO_pow2 (by omega) (by omega) ?_) | ((with_reducible show BO _ _ _ .Mod (.int _) (.int _) _); refine BO_mod_p (by omega) ?_) | ((with_reducible show BO _ _ _ .FloorDiv (.int _) (.int _) _); refine BO_div_p (by omega) (by omega) ?_) | ((with_reducible show BO _ _ _ .Div (.int _) (.int _) _); refine BO_div_s (Rm.handled (by first | assumption | apply_assumption)) (by omega) (by omega) (by omega) ?_) | ((with_reducible show IO _ _ _ (.tup _) (.int (OfNat.ofNat _)) _); refine IO_ti (by decide) rfl (by decide) ?_) | ((with_reducible show UO _ _ _ .USub (.int _) _); refine UO_neg_i ?_))
      refine ⟨by simp, ?_⟩
      repeat (first | ((with_reducible show WE _ _ _ _ _ _ (.BinOp _ _ _ _) _); refine WE_binop ?_) | ((with_reducible show WE _ _ _ _ _ _ (.Constant (.float _) _ _) _); refine WE_flt ?_) | ((with_reducible show WE _ _ _ _ _ _ (.Constant (.int _) _ _) _); refine WE_int ?_) | ((with_reducible show WE _ _ _ _ _ _ (.Constant (.bool _) _ _) _); refine WE_bool ?_) | ((with_reducible show WE _ _ _ _ _ _ (.Name _ _) _); first | refine WE_name rfl ?_ | refine WE_name (by assumption) ?_ | refine WE_name (comp_get (by assumption)) ?_) | ((with_reducible show WE _ _ _ _ _ _ (.Tuple _ _ _) _); refine WE_tuple ?_) | ((with_reducible show WE _ _ _ _ _ _ (.List _ _) _); refine WE_list ?_) | ((with_reducible show WE _ _ _ _ _ _ (.Subscript _ (.Slice _ _ none _) _) _); refine WE_cut ?_) | ((with_reducible show WE _ _ _ _ _ _ (.Subscript _ _ _) _); refine WE_item ?_) | ((with_reducible show WE _ _ _ _ _ _ (.UnaryOp _ _ _) _); refine WE_unary ?_) | ((with_reducible show WP _ _ _ _ _ _ (some _) _); refine WP_some ?_) | ((with_reducible show WP _ _ _ _ _ _ none _); refine WP_none ?_) | ((with_reducible show WEs _ _ _ _ _ _ (_ :: _) _); refine WEs_cons ?_) | ((with_reducible show WEs _ _ _ _ _ _ [] _); refine WEs_nil ?_) | ((with_reducible show BO _ _ _ .Mult (.flt _) (.flt _) _); refine BO_mul_ff ?_) | ((with_reducible show BO _ _ _ .Add (.flt _) (.flt _) _); refine BO_add_ff ?_) | ((with_reducible show BO _ _ _ .Sub (.flt _) (.flt _) _); refine BO_sub_ff ?_) | ((with_reducible show BO _ _ _ .Add (.int _) (.int _) _); refine BO_add_ii ?_) | ((with_reducible show BO _ _ _ .Sub (.int _) (.int _) _); refine BO_sub_ii ?_) | ((with_reducible show BO _ _ _ .Mult (.int _) (.int _) _); refine BO_mul_ii (by first | exact mulL (by omega) (by omega) | exact mulR (by omega) (by omega)) ?_) | ((with_reducible show BO _ _ _ .Pow (.int _) (.int _) _); first | refine BO_pow_eq pow40 (by decide) (by decide) ?_ | refine BO_pow_eq pow52 (by decide) (by decide) ?_ | refine BO_pow_eq pow53 (by decide) (by decide) ?_ | refine BO_pow2 (by omega) (by omega) ?_) | ((with_reducible show BO _ _ _ .Mod (.int _) (.int _) _); refine BO_mod_p (by omega) ?_) | ((with_reducible show BO _ _ _ .FloorDiv (.int _) (.int _) _); refine BO_div_p (by omega) (by omega) ?_) | ((with_reducible show BO _ _ _ .Div (.int _) (.int _) _); refine BO_div_s (Rm.handled (by first | assumption | apply_assumption)) (by omega) (by omega) (by omega) ?_) | ((with_reducible show IO _ _ _ (.tup _) (.int (OfNat.ofNat _)) _); refine IO_ti (by decide) rfl (by decide) ?_) | ((with_reducible show UO _ _ _ .USub (.int _) _); refine UO_neg_i ?_))
      refine BO_mul_six ?_
      refine CO_ne_ll GB (hA _).cl (r := true) rfl ?_
      show WT _ _ _ _ _ _ _ _
      refine WT_or_nil ?_
      show WS _ _ _ _ _ _ _ _
      refine WS_nil ?_
      clear hT hhue hs k8 k9 k10 k11 k12
      have hx2 := Int.emod_nonneg x (show (4503599627370496 : Int) ≠ 0 by decide)
      have hx3 := Int.emod_lt_of_pos x (show (0 : Int) < 4503599627370496 by decide)
      have hy2 := Int.emod_nonneg y (show (4503599627370496 : Int) ≠ 0 by decide)
      have hy3 := Int.emod_lt_of_pos y (show (0 : Int) < 4503599627370496 by decide)
      have hz2 := Int.emod_nonneg z (show (4503599627370496 : Int) ≠ 0 by decide)
      have hz3 := Int.emod_lt_of_pos z (show (0 : Int) < 4503599627370496 by decide)
      refine WS_cons ?_
      refine WX_assign (.inr ⟨rfl, rfl, rfl⟩) ?_
      refine WE_listcomp (compOk rfl) (WI_lst (hA _).handled ?_) (fun _ => fold_lst)
      repeat (first | ((with_reducible show WE _ _ _ _ _ _ (.BinOp _ _ _ _) _); refine WE_binop ?_) | ((with_reducible show WE _ _ _ _ _ _ (.Constant (.float _) _ _) _); refine WE_flt ?_) | ((with_reducible show WE _ _ _ _ _ _ (.Constant (.int _) _ _) _); refine WE_int ?_) | ((with_reducible show WE _ _ _ _ _ _ (.Constant (.bool _) _ _) _); refine WE_bool ?_) | ((with_reducible show WE _ _ _ _ _ _ (.Name _ _) _); first | refine WE_name rfl ?_ | refine WE_name (by assumption) ?_ | refine WE_name (comp_get (by assumption)) ?_) | ((with_reducible show WE _ _ _ _ _ _ (.Tuple _ _ _) _); refine WE_tuple ?_) | ((with_reducible show WE _ _ _ _ _ _ (.List _ _) _); refine WE_list ?_) | ((with_reducible show WE _ _ _ _ _ _ (.Subscript _ (.Slice _ _ none _) _) _); refine WE_cut ?_) | ((with_reducible show WE _ _ _ _ _ _ (.Subscript _ _ _) _); refine WE_item ?_) | ((with_reducible show WE _ _ _ _ _ _ (.UnaryOp _ _ _) _); refine WE_unary ?_) | ((with_reducible show WP _ _ _ _ _ _ (some _) _); refine WP_some ?_) | ((with_reducible show WP _ _ _ _ _ _ none _); refine WP_none ?_) | ((with_reducible show WEs _ _ _ _ _ _ (_ :: _) _); refine WEs_cons ?_) | ((with_reducible show WEs _ _ _ _ _ _ [] _); refine WEs_nil ?_) | ((with_reducible show BO _ _ _ .Mult (.flt _) (.flt _) _); refine BO_mul_ff ?_) | ((with_reducible show BO _ _ _ .Add (.flt _) (.flt _) _); refine BO_add_ff ?_) | ((with_reducible show BO _ _ _ .Sub (.flt _) (.flt _) _); refine BO_sub_ff ?_) | ((with_reducible show BO _ _ _ .Add (.int _) (.int _) _); refine BO_add_ii ?_) | ((with_reducible show BO _ _ _ .Sub (.int _) (.int _) _); refine BO_sub_ii ?_) | ((with_reducible show BO _ _ _ .Mult (.int _) (.int _) _); refine BO_mul_ii (by first | exact mulL (by omega) (by omega) | exact mulR (by omega) (by omega)) ?_) | ((with_reducible show BO _ _ _ .Pow (.int _) (.int _) _); first | refine BO_pow_eq pow40 (by decide) (by decide) ?_ | refine BO_pow_eq pow52 (by decide) (by decide) ?_ | refine BO_pow_eq pow53 (by decide) (by decide) ?_ | refine BO_pow2 (by omega) (by omega) ?_) | ((with_reducible show BO _ _ _ .Mod (.int _) (.int _) _); refine BO_mod_p (by omega) ?_) | ((with_reducible show BO _ _ _ .FloorDiv (.int _) (.int _) _); refine BO_div_p (by omega) (by omega) ?_) | ((with_reducible show BO _ _ _ .Div (.int _) (.int _) _); refine BO_div_s (Rm.handled (by first | assumption | apply_assumption)) (by omega) (by omega) (by omega) ?_) | ((with_reducible show IO _ _ _ (.tup _) (.int (OfNat.ofNat _)) _); refine IO_ti (by decide) rfl (by decide) ?_) | ((with_reducible show UO _ _ _ .USub (.int _) _); refine UO_neg_i ?_))
      refine ⟨by simp, _, rfl, by simp, fun C cl => CompP_map (onInt fun i => .int (i % 4503599627370496)) _ _ ?_ ?_⟩
      · intro d hd
        obtain ⟨i, rfl⟩ := mem3 (P := fun d => ∃ i, d = .int i) ⟨_, rfl⟩ ⟨_, rfl⟩ ⟨_, rfl⟩ d hd
        repeat (first | ((with_reducible show WE _ _ _ _ _ _ (.BinOp _ _ _ _) _); refine WE_binop ?_) | ((with_reducible show WE _ _ _ _ _ _ (.Constant (.float _) _ _) _); refine WE_flt ?_) | ((with_reducible show WE _ _ _ _ _ _ (.Constant (.int _) _ _) _); refine WE_int ?_) | ((with_reducible show WE _ _ _ _ _ _ (.Constant (.bool _) _ _) _); refine WE_bool ?_) | ((with_reducible show WE _ _ _ _ _ _ (.Name _ _) _); first | refine WE_name rfl ?_ | refine WE_name (by assumption) ?_ | refine WE_name (comp_get (by assumption)) ?_) | ((with_reducible show WE _ _ _ _ _ _ (.Tuple _ _ _) _); refine WE_tuple ?_) | ((with_reducible show WE _ _ _ _ _ _ (.List _ _) _); refine WE_list ?_) | ((with_reducible show WE _ _ _ _ _ _ (.Subscript _ (.Slice _ _ none _) _) _); refine WE_cut ?_) | ((with_reducible show WE _ _ _ _ _ _ (.Subscript _ _ _) _); refine WE_item ?_) | ((with_reducible show WE _ _ _ _ _ _ (.UnaryOp _ _ _) _); refine WE_unary ?_) | ((with_reducible show WP _ _ _ _ _ _ (some _) _); refine WP_some ?_) | ((with_reducible show WP _ _ _ _ _ _ none _); refine WP_none ?_) | ((with_reducible show WEs _ _ _ _ _ _ (_ :: _) _); refine WEs_cons ?_) | ((with_reducible show WEs _ _ _ _ _ _ [] _); refine WEs_nil ?_) | ((with_reducible show BO _ _ _ .Mult (.flt _) (.flt _) _); refine BO_mul_ff ?_) | ((with_reducible show BO _ _ _ .Add (.flt _) (.flt _) _); refine BO_add_ff ?_) | ((with_reducible show BO _ _ _ .Sub (.flt _) (.flt _) _); refine BO_sub_ff ?_) | ((with_reducible show BO _ _ _ .Add (.int _) (.int _) _); refine BO_add_ii ?_) | ((with_reducible show BO _ _ _ .Sub (.int _) (.int _) _); refine BO_sub_ii ?_) | ((with_reducible show BO _ _ _ .Mult (.int _) (.int _) _); refine BO_mul_ii (by first | exact mulL (by omega) (by omega) | exact mulR (by omega) (by omega)) ?_) | ((with_reducible show BO _ _ _ .Pow (.int _) (.int _) _); first | refine BO_pow_eq pow40 (by decide) (by decide) ?_ | refine BO_pow_eq pow52 (by decide) (by decide) ?_ | refine BO_pow_eq pow53 (by decide) (by decide) ?_ | refine BO_pow2 (by omega) (by omega) ?_) | ((with_reducible show BO _ _ _ .Mod (.int _) (.int _) _); refine BO_mod_p (by omega) ?_) | ((with_reducible show BO _ _ _ .FloorDiv (.int _) (.int _) _); refine BO_div_p (by omega) (by omega) ?_) | ((with_reducible show BO _ _ _ .Div (.int _) (.int _) _); refine BO_div_s (Rm.handled (by first | assumption | apply_assumption)) (by omega) (by omega) (by omega) ?_) | ((with_reducible show IO _ _ _ (.tup _) (.int (OfNat.ofNat _)) _); refine IO_ti (by decide) rfl (by decide) ?_) | ((with_reducible show UO _ _ _ .USub (.int _) _); refine UO_neg_i ?_))
        rfl
      show WS _ _ _ _ _ (Store.set _ _ (.dat (.lst [.int (x % 4503599627370496), .int (y % 4503599627370496), .int (z % 4503599627370496)]))) _ _
      generalize x % 4503599627370496 = X at hx2 hx3 ⊢
      generalize y % 4503599627370496 = Y at hy2 hy3 ⊢
      generalize z % 4503599627370496 = Z at hz2 hz3 ⊢
      have hL := n08l (x := X) (y := Y) (z := Z) ⟨hx2, hx3⟩ ⟨hy2, hy3⟩ ⟨hz2, hz3⟩ rfl rfl rfl rfl rfl
      have hm0 : 0 ≤ min (min X Y) Z ∧ min (min X Y) Z < 4503599627370496 := by omega
      have hw0 : 0 ≤ max (max X Y) Z - min (min X Y) Z ∧ max (max X Y) Z - min (min X Y) Z < 4503599627370496 := by omega
      refine WS_cons ?_
      refine WX_assign_comp rfl (.inl rfl) (compOk rfl) (WI_lst (hA _).handled ?_) (hs := fun _ => fold_nam)
      repeat (first | ((with_reducible show WE _ _ _ _ _ _ (.BinOp _ _ _ _) _); refine WE_binop ?_) | ((with_reducible show WE _ _ _ _ _ _ (.Constant (.float _) _ _) _); refine WE_flt ?_) | ((with_reducible show WE _ _ _ _ _ _ (.Constant (.int _) _ _) _); refine WE_int ?_) | ((with_reducible show WE _ _ _ _ _ _ (.Constant (.bool _) _ _) _); refine WE_bool ?_) | ((with_reducible show WE _ _ _ _ _ _ (.Name _ _) _); first | refine WE_name rfl ?_ | refine WE_name (by assumption) ?_ | refine WE_name (comp_get (by assumption)) ?_) | ((with_reducible show WE _ _ _ _ _ _ (.Tuple _ _ _) _); refine WE_tuple ?_) | ((with_reducible show WE _ _ _ _ _ _ (.List _ _) _); refine WE_list ?_) | ((with_reducible show WE _ _ _ _ _ _ (.Subscript _ (.Slice _ _ none _) _) _); refine WE_cut ?_) | ((with_reducible show WE _ _ _ _ _ _ (.Subscript _ _ _) _); refine WE_item ?_) | ((with_reducible show WE _ _ _ _ _ _ (.UnaryOp _ _ _) _); refine WE_unary ?_) | ((with_reducible show WP _ _ _ _ _ _ (some _) _); refine WP_some ?_) | ((with_reducible show WP _ _ _ _ _ _ none _); refine WP_none ?_) | ((with_reducible show WEs _ _ _ _ _ _ (_ :: _) _); refine WEs_cons ?_) | ((with_reducible show WEs _ _ _ _ _ _ [] _); refine WEs_nil ?_) | ((with_reducible show BO _ _ _ .Mult (.flt _) (.flt _) _); refine BO_mul_ff ?_) | ((with_reducible show BO _ _ _ .Add (.flt _) (.flt _) _); refine BO_add_ff ?_) | ((with_reducible show BO _ _ _ .Sub (.flt _) (.flt _) _); refine BO_sub_ff ?_) | ((with_reducible show BO _ _ _ .Add (.int _) (.int _) _); refine BO_add_ii ?_) | ((with_reducible show BO _ _ _ .Sub (.int _) (.int _) _); refine BO_sub_ii ?_) | ((with_reducible show BO _ _ _ .Mult (.int _) (.int _) _); refine BO_mul_ii (by first | exact mulL (by omega) (by omega) | exact mulR (by omega) (by omega)) ?_) | ((with_reducible show BO _ _ _ .Pow (.int _) (.int _) _); first | refine BO_pow_eq pow40 (by decide) (by decide) ?_ | refine BO_pow_eq pow52 (by decide) (by decide) ?_ | refine BO_pow_eq pow53 (by decide) (by decide) ?_ | refine BO_pow2 (by omega) (by omega) ?_) | ((with_reducible show BO _ _ _ .Mod (.int _) (.int _) _); refine BO_mod_p (by omega) ?_) | ((with_reducible show BO _ _ _ .FloorDiv (.int _) (.int _) _); refine BO_div_p (by omega) (by omega) ?_) | ((with_reducible show BO _ _ _ .Div (.int _) (.int _) _); refine BO_div_s (Rm.handled (by first | assumption | apply_assumption)) (by omega) (by omega) (by omega) ?_) | ((with_reducible show IO _ _ _ (.tup _) (.int (OfNat.ofNat _)) _); refine IO_ti (by decide) rfl (by decide) ?_) | ((with_reducible show UO _ _ _ .USub (.int _) _); refine UO_neg_i ?_))
      refine ⟨_, rfl, by simp, fun C cl => CompP_map (onInt fun i => .flt (divI (9007199254740992 + min (min X Y) Z - i) 9007199254740992)) _ _ ?_ ?_⟩
      · intro d hd
        obtain ⟨i, rfl, i1, i2⟩ := mem3 (P := fun d => ∃ i, d = .int i ∧ 0 ≤ i ∧ i < 4503599627370496) ⟨_, rfl, hx2, hx3⟩ ⟨_, rfl, hy2, hy3⟩ ⟨_, rfl, hz2, hz3⟩ d hd
        repeat (first | ((with_reducible show WE _ _ _ _ _ _ (.BinOp _ _ _ _) _); refine WE_binop ?_) | ((with_reducible show WE _ _ _ _ _ _ (.Constant (.float _) _ _) _); refine WE_flt ?_) | ((with_reducible show WE _ _ _ _ _ _ (.Constant (.int _) _ _) _); refine WE_int ?_) | ((with_reducible show WE _ _ _ _ _ _ (.Constant (.bool _) _ _) _); refine WE_bool ?_) | ((with_reducible show WE _ _ _ _ _ _ (.Name _ _) _); first | refine WE_name rfl ?_ | refine WE_name (by assumption) ?_ | refine WE_name (comp_get (by assumption)) ?_) | ((with_reducible show WE _ _ _ _ _ _ (.Tuple _ _ _) _); refine WE_tuple ?_) | ((with_reducible show WE _ _ _ _ _ _ (.List _ _) _); refine WE_list ?_) | ((with_reducible show WE _ _ _ _ _ _ (.Subscript _ (.Slice _ _ none _) _) _); refine WE_cut ?_) | ((with_reducible show WE _ _ _ _ _ _ (.Subscript _ _ _) _); refine WE_item ?_) | ((with_reducible show WE _ _ _ _ _ _ (.UnaryOp _ _ _) _); refine WE_unary ?_) | ((with_reducible show WP _ _ _ _ _ _ (some _) _); refine WP_some ?_) | ((with_reducible show WP _ _ _ _ _ _ none _); refine WP_none ?_) | ((with_reducible show WEs _ _ _ _ _ _ (_ :: _) _); refine WEs_cons ?_) | ((with_reducible show WEs _ _ _ _ _ _ [] _); refine WEs_nil ?_) | ((with_reducible show BO _ _ _ .Mult (.flt _) (.flt _) _); refine BO_mul_ff ?_) | ((with_reducible show BO _ _ _ .Add (.flt _) (.flt _) _); refine BO_add_ff ?_) | ((with_reducible show BO _ _ _ .Sub (.flt _) (.flt _) _); refine BO_sub_ff ?_) | ((with_reducible show BO _ _ _ .Add (.int _) (.int _) _); refine BO_add_ii ?_) | ((with_reducible show BO _ _ _ .Sub (.int _) (.int _) _); refine BO_sub_ii ?_) | ((with_reducible show BO _ _ _ .Mult (.int _) (.int _) _); refine BO_mul_ii (by first | exact mulL (by omega) (by omega) | exact mulR (by omega) (by omega)) ?_) | ((with_reducible show BO _ _ _ .Pow (.int _) (.int _) _); first | refine BO_pow_eq pow40 (by decide) (by decide) ?_ | refine BO_pow_eq pow52 (by decide) (by decide) ?_ | refine BO_pow_eq pow53 (by decide) (by decide) ?_ | refine BO_pow2 (by omega) (by omega) ?_) | ((with_reducible show BO _ _ _ .Mod (.int _) (.int _) _); refine BO_mod_p (by omega) ?_) | ((with_reducible show BO _ _ _ .FloorDiv (.int _) (.int _) _); refine BO_div_p (by omega) (by omega) ?_) | ((with_reducible show BO _ _ _ .Div (.int _) (.int _) _); refine BO_div_s (Rm.handled (by first | assumption | apply_assumption)) (by omega) (by omega) (by omega) ?_) | ((with_reducible show IO _ _ _ (.tup _) (.int (OfNat.ofNat _)) _); refine IO_ti (by decide) rfl (by decide) ?_) | ((with_reducible show UO _ _ _ .USub (.int _) _); refine UO_neg_i ?_))
        refine WE_call_builtin GB rfl nmin (by with_unfolding_all rfl) ?_
        repeat (first | ((with_reducible show WE _ _ _ _ _ _ (.BinOp _ _ _ _) _); refine WE_binop ?_) | ((with_reducible show WE _ _ _ _ _ _ (.Constant (.float _) _ _) _); refine WE_flt ?_) | ((with_reducible show WE _ _ _ _ _ _ (.Constant (.int _) _ _) _); refine WE_int ?_) | ((with_reducible show WE _ _ _ _ _ _ (.Constant (.bool _) _ _) _); refine WE_bool ?_) | ((with_reducible show WE _ _ _ _ _ _ (.Name _ _) _); first | refine WE_name rfl ?_ | refine WE_name (by assumption) ?_ | refine WE_name (comp_get (by assumption)) ?_) | ((with_reducible show WE _ _ _ _ _ _ (.Tuple _ _ _) _); refine WE_tuple ?_) | ((with_reducible show WE _ _ _ _ _ _ (.List _ _) _); refine WE_list ?_) | ((with_reducible show WE _ _ _ _ _ _ (.Subscript _ (.Slice _ _ none _) _) _); refine WE_cut ?_) | ((with_reducible show WE _ _ _ _ _ _ (.Subscript _ _ _) _); refine WE_item ?_) | ((with_reducible show WE _ _ _ _ _ _ (.UnaryOp _ _ _) _); refine WE_unary ?_) | ((with_reducible show WP _ _ _ _ _ _ (some _) _); refine WP_some ?_) | ((with_reducible show WP _ _ _ _ _ _ none _); refine WP_none ?_) | ((with_reducible show WEs _ _ _ _ _ _ (_ :: _) _); refine WEs_cons ?_) | ((with_reducible show WEs _ _ _ _ _ _ [] _); refine WEs_nil ?_) | ((with_reducible show BO _ _ _ .Mult (.flt _) (.flt _) _); refine BO_mul_ff ?_) | ((with_reducible show BO _ _ _ .Add (.flt _) (.flt _) _); refine BO_add_ff ?_) | ((with_reducible show BO _ _ _ .Sub (.flt _) (.flt _) _); refine BO_sub_ff ?_) | ((with_reducible show BO _ _ _ .Add (.int _) (.int _) _); refine BO_add_ii ?_) | ((with_reducible show BO _ _ _ .Sub (.int _) (.int _) _); refine BO_sub_ii ?_) | ((with_reducible show BO _ _ _ .Mult (.int _) (.int _) _); refine BO_mul_ii (by first | exact mulL (by omega) (by omega) | exact mulR (by omega) (by omega)) ?_) | ((with_reducible show BO _ _ _ .Pow (.int _) (.int _) _); first | refine BO_pow_eq pow40 (by decide) (by decide) ?_ | refine BO_pow_eq pow52 (by decide) (by decide) ?_ | refine BO_pow_eq pow53 (by decide) (by decide) ?_ | refine BO_pow2 (by omega) (by omega) ?_) | ((with_reducible show BO _ _ _ .Mod (.int _) (.int _) _); refine BO_mod_p (by omega) ?_) | ((with_reducible show BO _ _ _ .FloorDiv (.int _) (.int _) _); refine BO_div_p (by omega) (by omega) ?_) | ((with_reducible show BO _ _ _ .Div (.int _) (.int _) _); refine BO_div_s (Rm.handled (by first | assumption | apply_assumption)) (by omega) (by omega) (by omega) ?_) | ((with_reducible show IO _ _ _ (.tup _) (.int (OfNat.ofNat _)) _); refine IO_ti (by decide) rfl (by decide) ?_) | ((with_reducible show UO _ _ _ .USub (.int _) _); refine UO_neg_i ?_))
        refine WC_min_l3 (hA _).handled ?_
        repeat (first | ((with_reducible show WE _ _ _ _ _ _ (.BinOp _ _ _ _) _); refine WE_binop ?_) | ((with_reducible show WE _ _ _ _ _ _ (.Constant (.float _) _ _) _); refine WE_flt ?_) | ((with_reducible show WE _ _ _ _ _ _ (.Constant (.int _) _ _) _); refine WE_int ?_) | ((with_reducible show WE _ _ _ _ _ _ (.Constant (.bool _) _ _) _); refine WE_bool ?_) | ((with_reducible show WE _ _ _ _ _ _ (.Name _ _) _); first | refine WE_name rfl ?_ | refine WE_name (by assumption) ?_ | refine WE_name (comp_get (by assumption)) ?_) | ((with_reducible show WE _ _ _ _ _ _ (.Tuple _ _ _) _); refine WE_tuple ?_) | ((with_reducible show WE _ _ _ _ _ _ (.List _ _) _); refine WE_list ?_) | ((with_reducible show WE _ _ _ _ _ _ (.Subscript _ (.Slice _ _ none _) _) _); refine WE_cut ?_) | ((with_reducible show WE _ _ _ _ _ _ (.Subscript _ _ _) _); refine WE_item ?_) | ((with_reducible show WE _ _ _ _ _ _ (.UnaryOp _ _ _) _); refine WE_unary ?_) | ((with_reducible show WP _ _ _ _ _ _ (some _) _); refine WP_some ?_) | ((with_reducible show WP _ _ _ _ _ _ none _); refine WP_none ?_) | ((with_reducible show WEs _ _ _ _ _ _ (_ :: _) _); refine WEs_cons ?_) | ((with_reducible show WEs _ _ _ _ _ _ [] _); refine WEs_nil ?_) | ((with_reducible show BO _ _ _ .Mult (.flt _) (.flt _) _); refine BO_mul_ff ?_) | ((with_reducible show BO _ _ _ .Add (.flt _) (.flt _) _); refine BO_add_ff ?_) | ((with_reducible show BO _ _ _ .Sub (.flt _) (.flt _) _); refine BO_sub_ff ?_) | ((with_reducible show BO _ _ _ .Add (.int _) (.int _) _); refine BO_add_ii ?_) | ((with_reducible show BO _ _ _ .Sub (.int _) (.int _) _); refine BO_sub_ii ?_) | ((with_reducible show BO _ _ _ .Mult (.int _) (.int _) _); refine BO_mul_ii (by first | exact mulL (by omega) (by omega) | exact mulR (by omega) (by omega)) ?_) | ((with_reducible show BO _ _ _ .Pow (.int _) (.int _) _); first | refine BO_pow_eq pow40 (by decide) (by decide) ?_ | refine BO_pow_eq pow52 (by decide) (by decide) ?_ | refine BO_pow_eq pow53 (by decide) (by decide) ?_ | refine BO_pow2 (by omega) (by omega) ?_) | ((with_reducible show BO _ _ _ .Mod (.int _) (.int _) _); refine BO_mod_p (by omega) ?_) | ((with_reducible show BO _ _ _ .FloorDiv (.int _) (.int _) _); refine BO_div_p (by omega) (by omega) ?_) | ((with_reducible show BO _ _ _ .Div (.int _) (.int _) _); refine BO_div_s (Rm.handled (by first | assumption | apply_assumption)) (by omega) (by omega) (by omega) ?_) | ((with_reducible show IO _ _ _ (.tup _) (.int (OfNat.ofNat _)) _); refine IO_ti (by decide) rfl (by decide) ?_) | ((with_reducible show UO _ _ _ .USub (.int _) _); refine UO_neg_i ?_))
        rfl
      show WS _ _ _ _ _ (Store.set _ _ (.dat (.lst [.flt (divI (9007199254740992 + min (min X Y) Z - X) 9007199254740992), .flt (divI (9007199254740992 + min (min X Y) Z - Y) 9007199254740992), .flt (divI (9007199254740992 + min (min X Y) Z - Z) 9007199254740992)]))) _ _
      generalize divI (9007199254740992 + min (min X Y) Z - X) 9007199254740992 = LR at hL ⊢
      generalize divI (9007199254740992 + min (min X Y) Z - Y) 9007199254740992 = LG at hL ⊢
      generalize divI (9007199254740992 + min (min X Y) Z - Z) 9007199254740992 = LB at hL ⊢
      refine WS_cons ?_
      refine WX_assign (.inl rfl) ?_
      repeat (first | ((with_reducible show WE _ _ _ _ _ _ (.BinOp _ _ _ _) _); refine WE_binop ?_) | ((with_reducible show WE _ _ _ _ _ _ (.Constant (.float _) _ _) _); refine WE_flt ?_) | ((with_reducible show WE _ _ _ _ _ _ (.Constant (.int _) _ _) _); refine WE_int ?_) | ((with_reducible show WE _ _ _ _ _ _ (.Constant (.bool _) _ _) _); refine WE_bool ?_) | ((with_reducible show WE _ _ _ _ _ _ (.Name _ _) _); first | refine WE_name rfl ?_ | refine WE_name (by assumption) ?_ | refine WE_name (comp_get (by assumption)) ?_) | ((with_reducible show WE _ _ _ _ _ _ (.Tuple _ _ _) _); refine WE_tuple ?_) | ((with_reducible show WE _ _ _ _ _ _ (.List _ _) _); refine WE_list ?_) | ((with_reducible show WE _ _ _ _ _ _ (.Subscript _ (.Slice _ _ none _) _) _); refine WE_cut ?_) | ((with_reducible show WE _ _ _ _ _ _ (.Subscript _ _ _) _); refine WE_item ?_) | ((with_reducible show WE _ _ _ _ _ _ (.UnaryOp _ _ _) _); refine WE_unary ?_) | ((with_reducible show WP _ _ _ _ _ _ (some _) _); refine WP_some ?_) | ((with_reducible show WP _ _ _ _ _ _ none _); refine WP_none ?_) | ((with_reducible show WEs _ _ _ _ _ _ (_ :: _) _); refine WEs_cons ?_) | ((with_reducible show WEs _ _ _ _ _ _ [] _); refine WEs_nil ?_) | ((with_reducible show BO _ _ _ .Mult (.flt _) (.flt _) _); refine BO_mul_ff ?_) | ((with_reducible show BO _ _ _ .Add (.flt _) (.flt _) _); refine BO_add_ff ?_) | ((with_reducible show BO _ _ _ .Sub (.flt _) (.flt _) _); refine BO_sub_ff ?_) | ((with_reducible show BO _ _ _ .Add (.int _) (.int _) _); refine BO_add_ii ?_) | ((with_reducible show BO _ _ _ .Sub (.int _) (.int _) _); refine BO_sub_ii ?_) | ((with_reducible show BO _ _ _ .Mult (.int _) (.int _) _); refine BO_mul_ii (by first | exact mulL (by omega) (by omega) | exact mulR (by omega) (by omega)) ?_) | ((with_reducible show BO _ _ _ .Pow (.int _) (.int _) _); first | refine BO_pow_eq pow40 (by decide) (by decide) ?_ | refine BO_pow_eq pow52 (by decide) (by decide) ?_ | refine BO_pow_eq pow53 (by decide) (by decide) ?_ | refine BO_pow2 (by omega) (by omega) ?_) | ((with_reducible show BO _ _ _ .Mod (.int _) (.int _) _); refine BO_mod_p (by omega) ?_) | ((with_reducible show BO _ _ _ .FloorDiv (.int _) (.int _) _); refine BO_div_p (by omega) (by omega) ?_) | ((with_reducible show BO _ _ _ .Div (.int _) (.int _) _); refine BO_div_s (Rm.handled (by first | assumption | apply_assumption)) (by omega) (by omega) (by omega) ?_) | ((with_reducible show IO _ _ _ (.tup _) (.int (OfNat.ofNat _)) _); refine IO_ti (by decide) rfl (by decide) ?_) | ((with_reducible show UO _ _ _ .USub (.int _) _); refine UO_neg_i ?_))
      refine WE_call_builtin GB rfl nmax (by with_unfolding_all rfl) ?_
      repeat (first | ((with_reducible show WE _ _ _ _ _ _ (.BinOp _ _ _ _) _); refine WE_binop ?_) | ((with_reducible show WE _ _ _ _ _ _ (.Constant (.float _) _ _) _); refine WE_flt ?_) | ((with_reducible show WE _ _ _ _ _ _ (.Constant (.int _) _ _) _); refine WE_int ?_) | ((with_reducible show WE _ _ _ _ _ _ (.Constant (.bool _) _ _) _); refine WE_bool ?_) | ((with_reducible show WE _ _ _ _ _ _ (.Name _ _) _); first | refine WE_name rfl ?_ | refine WE_name (by assumption) ?_ | refine WE_name (comp_get (by assumption)) ?_) | ((with_reducible show WE _ _ _ _ _ _ (.Tuple _ _ _) _); refine WE_tuple ?_) | ((with_reducible show WE _ _ _ _ _ _ (.List _ _) _); refine WE_list ?_) | ((with_reducible show WE _ _ _ _ _ _ (.Subscript _ (.Slice _ _ none _) _) _); refine WE_cut ?_) | ((with_reducible show WE _ _ _ _ _ _ (.Subscript _ _ _) _); refine WE_item ?_) | ((with_reducible show WE _ _ _ _ _ _ (.UnaryOp _ _ _) _); refine WE_unary ?_) | ((with_reducible show WP _ _ _ _ _ _ (some _) _); refine WP_some ?_) | ((with_reducible show WP _ _ _ _ _ _ none _); refine WP_none ?_) | ((with_reducible show WEs _ _ _ _ _ _ (_ :: _) _); refine WEs_cons ?_) | ((with_reducible show WEs _ _ _ _ _ _ [] _); refine WEs_nil ?_) | ((with_reducible show BO _ _ _ .Mult (.flt _) (.flt _) _); refine BO_mul_ff ?_) | ((with_reducible show BO _ _ _ .Add (.flt _) (.flt _) _); refine BO_add_ff ?_) | ((with_reducible show BO _ _ _ .Sub (.flt _) (.flt _) _); refine BO_sub_ff ?_) | ((with_reducible show BO _ _ _ .Add (.int _) (.int _) _); refine BO_add_ii ?_) | ((with_reducible show BO _ _ _ .Sub (.int _) (.int _) _); refine BO_sub_ii ?_) | ((with_reducible show BO _ _ _ .Mult (.int _) (.int _) _); refine BO_mul_ii (by first | exact mulL (by omega) (by omega) | exact mulR (by omega) (by omega)) ?_) | ((with_reducible show BO _ _ _ .Pow (.int _) (.int _) _); first | refine BO_pow_eq pow40 (by decide) (by decide) ?_ | refine BO_pow_eq pow52 (by decide) (by decide) ?_ | refine BO_pow_eq pow53 (by decide) (by decide) ?_ | refine BO_pow2 (by omega) (by omega) ?_) | ((with_reducible show BO _ _ _ .Mod (.int _) (.int _) _); refine BO_mod_p (by omega) ?_) | ((with_reducible show BO _ _ _ .FloorDiv (.int _) (.int _) _); refine BO_div_p (by omega) (by omega) ?_) | ((with_reducible show BO _ _ _ .Div (.int _) (.int _) _); refine BO_div_s (Rm.handled (by first | assumption | apply_assumption)) (by omega) (by omega) (by omega) ?_) | ((with_reducible show IO _ _ _ (.tup _) (.int (OfNat.ofNat _)) _); refine IO_ti (by decide) rfl (by decide) ?_) | ((with_reducible show UO _ _ _ .USub (.int _) _); refine UO_neg_i ?_))
      refine WC_max_l3 (hA _).handled ?_
      repeat (first | ((with_reducible show WE _ _ _ _ _ _ (.BinOp _ _ _ _) _); refine WE_binop ?_) | ((with_reducible show WE _ _ _ _ _ _ (.Constant (.float _) _ _) _); refine WE_flt ?_) | ((with_reducible show WE _ _ _ _ _ _ (.Constant (.int _) _ _) _); refine WE_int ?_) | ((with_reducible show WE _ _ _ _ _ _ (.Constant (.bool _) _ _) _); refine WE_bool ?_) | ((with_reducible show WE _ _ _ _ _ _ (.Name _ _) _); first | refine WE_name rfl ?_ | refine WE_name (by assumption) ?_ | refine WE_name (comp_get (by assumption)) ?_) | ((with_reducible show WE _ _ _ _ _ _ (.Tuple _ _ _) _); refine WE_tuple ?_) | ((with_reducible show WE _ _ _ _ _ _ (.List _ _) _); refine WE_list ?_) | ((with_reducible show WE _ _ _ _ _ _ (.Subscript _ (.Slice _ _ none _) _) _); refine WE_cut ?_) | ((with_reducible show WE _ _ _ _ _ _ (.Subscript _ _ _) _); refine WE_item ?_) | ((with_reducible show WE _ _ _ _ _ _ (.UnaryOp _ _ _) _); refine WE_unary ?_) | ((with_reducible show WP _ _ _ _ _ _ (some _) _); refine WP_some ?_) | ((with_reducible show WP _ _ _ _ _ _ none _); refine WP_none ?_) | ((with_reducible show WEs _ _ _ _ _ _ (_ :: _) _); refine WEs_cons ?_) | ((with_reducible show WEs _ _ _ _ _ _ [] _); refine WEs_nil ?_) | ((with_reducible show BO _ _ _ .Mult (.flt _) (.flt _) _); refine BO_mul_ff ?_) | ((with_reducible show BO _ _ _ .Add (.flt _) (.flt _) _); refine BO_add_ff ?_) | ((with_reducible show BO _ _ _ .Sub (.flt _) (.flt _) _); refine BO_sub_ff ?_) | ((with_reducible show BO _ _ _ .Add (.int _) (.int _) _); refine BO_add_ii ?_) | ((with_reducible show BO _ _ _ .Sub (.int _) (.int _) _); refine BO_sub_ii ?_) | ((with_reducible show BO _ _ _ .Mult (.int _) (.int _) _); refine BO_mul_ii (by first | exact mulL (by omega) (by omega) | exact mulR (by omega) (by omega)) ?_) | ((with_reducible show BO _ _ _ .Pow (.int _) (.int _) _); first | refine BO_pow_eq pow40 (by decide) (by decide) ?_ | refine BO_pow_eq pow52 (by decide) (by decide) ?_ | refine BO_pow_eq pow53 (by decide) (by decide) ?_ | refine BO_pow2 (by omega) (by omega) ?_) | ((with_reducible show BO _ _ _ .Mod (.int _) (.int _) _); refine BO_mod_p (by omega) ?_) | ((with_reducible show BO _ _ _ .FloorDiv (.int _) (.int _) _); refine BO_div_p (by omega) (by omega) ?_) | ((with_reducible show BO _ _ _ .Div (.int _) (.int _) _); refine BO_div_s (Rm.handled (by first | assumption | apply_assumption)) (by omega) (by omega) (by omega) ?_) | ((with_reducible show IO _ _ _ (.tup _) (.int (OfNat.ofNat _)) _); refine IO_ti (by decide) rfl (by decide) ?_) | ((with_reducible show UO _ _ _ .USub (.int _) _); refine UO_neg_i ?_))
      refine WE_call_builtin GB rfl nmin (by with_unfolding_all rfl) ?_
      repeat (first | ((with_reducible show WE _ _ _ _ _ _ (.BinOp _ _ _ _) _); refine WE_binop ?_) | ((with_reducible show WE _ _ _ _ _ _ (.Constant (.float _) _ _) _); refine WE_flt ?_) | ((with_reducible show WE _ _ _ _ _ _ (.Constant (.int _) _ _) _); refine WE_int ?_) | ((with_reducible show WE _ _ _ _ _ _ (.Constant (.bool _) _ _) _); refine WE_bool ?_) | ((with_reducible show WE _ _ _ _ _ _ (.Name _ _) _); first | refine WE_name rfl ?_ | refine WE_name (by assumption) ?_ | refine WE_name (comp_get (by assumption)) ?_) | ((with_reducible show WE _ _ _ _ _ _ (.Tuple _ _ _) _); refine WE_tuple ?_) | ((with_reducible show WE _ _ _ _ _ _ (.List _ _) _); refine WE_list ?_) | ((with_reducible show WE _ _ _ _ _ _ (.Subscript _ (.Slice _ _ none _) _) _); refine WE_cut ?_) | ((with_reducible show WE _ _ _ _ _ _ (.Subscript _ _ _) _); refine WE_item ?_) | ((with_reducible show WE _ _ _ _ _ _ (.UnaryOp _ _ _) _); refine WE_unary ?_) | ((with_reducible show WP _ _ _ _ _ _ (some _) _); refine WP_some ?_) | ((with_reducible show WP _ _ _ _ _ _ none _); refine WP_none ?_) | ((with_reducible show WEs _ _ _ _ _ _ (_ :: _) _); refine WEs_cons ?_) | ((with_reducible show WEs _ _ _ _ _ _ [] _); refine WEs_nil ?_) | ((with_reducible show BO _ _ _ .Mult (.flt _) (.flt _) _); refine BO_mul_ff ?_) | ((with_reducible show BO _ _ _ .Add (.flt _) (.flt _) _); refine BO_add_ff ?_) | ((with_reducible show BO _ _ _ .Sub (.flt _) (.flt _) _); refine BO_sub_ff ?_) | ((with_reducible show BO _ _ _ .Add (.int _) (.int _) _); refine BO_add_ii ?_) | ((with_reducible show BO _ _ _ .Sub (.int _) (.int _) _); refine BO_sub_ii ?_) | ((with_reducible show BO _ _ _ .Mult (.int _) (.int _) _); refine BO_mul_ii (by first | exact mulL (by omega) (by omega) | exact mulR (by omega) (by omega)) ?_) | ((with_reducible show BO _ _ _ .Pow (.int _) (.int _) _); first | refine BO_pow_eq pow40 (by decide) (by decide) ?_ | refine BO_pow_eq pow52 (by decide) (by decide) ?_ | refine BO_pow_eq pow53 (by decide) (by decide) ?_ | refine BO_pow2 (by omega) (by omega) ?_) | ((with_reducible show BO _ _ _ .Mod (.int _) (.int _) _); refine BO_mod_p (by omega) ?_) | ((with_reducible show BO _ _ _ .FloorDiv (.int _) (.int _) _); refine BO_div_p (by omega) (by omega) ?_) | ((with_reducible show BO _ _ _ .Div (.int _) (.int _) _); refine BO_div_s (Rm.handled (by first | assumption | apply_assumption)) (by omega) (by omega) (by omega) ?_) | ((with_reducible show IO _ _ _ (.tup _) (.int (OfNat.ofNat _)) _); refine IO_ti (by decide) rfl (by decide) ?_) | ((with_reducible show UO _ _ _ .USub (.int _) _); refine UO_neg_i ?_))
      refine WC_min_l3 (hA _).handled ?_
      repeat (first | ((with_reducible show WE _ _ _ _ _ _ (.BinOp _ _ _ _) _); refine WE_binop ?_) | ((with_reducible show WE _ _ _ _ _ _ (.Constant (.float _) _ _) _); refine WE_flt ?_) | ((with_reducible show WE _ _ _ _ _ _ (.Constant (.int _) _ _) _); refine WE_int ?_) | ((with_reducible show WE _ _ _ _ _ _ (.Constant (.bool _) _ _) _); refine WE_bool ?_) | ((with_reducible show WE _ _ _ _ _ _ (.Name _ _) _); first | refine WE_name rfl ?_ | refine WE_name (by assumption) ?_ | refine WE_name (comp_get (by assumption)) ?_) | ((with_reducible show WE _ _ _ _ _ _ (.Tuple _ _ _) _); refine WE_tuple ?_) | ((with_reducible show WE _ _ _ _ _ _ (.List _ _) _); refine WE_list ?_) | ((with_reducible show WE _ _ _ _ _ _ (.Subscript _ (.Slice _ _ none _) _) _); refine WE_cut ?_) | ((with_reducible show WE _ _ _ _ _ _ (.Subscript _ _ _) _); refine WE_item ?_) | ((with_reducible show WE _ _ _ _ _ _ (.UnaryOp _ _ _) _); refine WE_unary ?_) | ((with_reducible show WP _ _ _ _ _ _ (some _) _); refine WP_some ?_) | ((with_reducible show WP _ _ _ _ _ _ none _); refine WP_none ?_) | ((with_reducible show WEs _ _ _ _ _ _ (_ :: _) _); refine WEs_cons ?_) | ((with_reducible show WEs _ _ _ _ _ _ [] _); refine WEs_nil ?_) | ((with_reducible show BO _ _ _ .Mult (.flt _) (.flt _) _); refine BO_mul_ff ?_) | ((with_reducible show BO _ _ _ .Add (.flt _) (.flt _) _); refine BO_add_ff ?_) | ((with_reducible show BO _ _ _ .Sub (.flt _) (.flt _) _); refine BO_sub_ff ?_) | ((with_reducible show BO _ _ _ .Add (.int _) (.int _) _); refine BO_add_ii ?_) | ((with_reducible show BO _ _ _ .Sub (.int _) (.int _) _); refine BO_sub_ii ?_) | ((with_reducible show BO _ _ _ .Mult (.int _) (.int _) _); refine BO_mul_ii (by first | exact mulL (by omega) (by omega) | exact mulR (by omega) (by omega)) ?_) | ((with_reducible show BO _ _ _ .Pow (.int _) (.int _) _); first | refine BO_pow_eq pow40 (by decide) (by decide) ?_ | refine BO_pow_eq pow52 (by decide) (by decide) ?_ | refine BO_pow_eq pow53 (by decide) (by decide) ?_ | refine BO_pow2 (by omega) (by omega) ?_) | ((with_reducible show BO _ _ _ .Mod (.int _) (.int _) _); refine BO_mod_p (by omega) ?_) | ((with_reducible show BO _ _ _ .FloorDiv (.int _) (.int _) _); refine BO_div_p (by omega) (by omega) ?_) | ((with_reducible show BO _ _ _ .Div (.int _) (.int _) _); refine BO_div_s (Rm.handled (by first | assumption | apply_assumption)) (by omega) (by omega) (by omega) ?_) | ((with_reducible show IO _ _ _ (.tup _) (.int (OfNat.ofNat _)) _); refine IO_ti (by decide) rfl (by decide) ?_) | ((with_reducible show UO _ _ _ .USub (.int _) _); refine UO_neg_i ?_))
      generalize max (max X Y) Z - min (min X Y) Z = wide at hL hw0 ⊢
      refine WS_cons ?_
      refine WX_assign (.inl rfl) ?_
      repeat (first | ((with_reducible show WE _ _ _ _ _ _ (.BinOp _ _ _ _) _); refine WE_binop ?_) | ((with_reducible show WE _ _ _ _ _ _ (.Constant (.float _) _ _) _); refine WE_flt ?_) | ((with_reducible show WE _ _ _ _ _ _ (.Constant (.int _) _ _) _); refine WE_int ?_) | ((with_reducible show WE _ _ _ _ _ _ (.Constant (.bool _) _ _) _); refine WE_bool ?_) | ((with_reducible show WE _ _ _ _ _ _ (.Name _ _) _); first | refine WE_name rfl ?_ | refine WE_name (by assumption) ?_ | refine WE_name (comp_get (by assumption)) ?_) | ((with_reducible show WE _ _ _ _ _ _ (.Tuple _ _ _) _); refine WE_tuple ?_) | ((with_reducible show WE _ _ _ _ _ _ (.List _ _) _); refine WE_list ?_) | ((with_reducible show WE _ _ _ _ _ _ (.Subscript _ (.Slice _ _ none _) _) _); refine WE_cut ?_) | ((with_reducible show WE _ _ _ _ _ _ (.Subscript _ _ _) _); refine WE_item ?_) | ((with_reducible show WE _ _ _ _ _ _ (.UnaryOp _ _ _) _); refine WE_unary ?_) | ((with_reducible show WP _ _ _ _ _ _ (some _) _); refine WP_some ?_) | ((with_reducible show WP _ _ _ _ _ _ none _); refine WP_none ?_) | ((with_reducible show WEs _ _ _ _ _ _ (_ :: _) _); refine WEs_cons ?_) | ((with_reducible show WEs _ _ _ _ _ _ [] _); refine WEs_nil ?_) | ((with_reducible show BO _ _ _ .Mult (.flt _) (.flt _) _); refine BO_mul_ff ?_) | ((with_reducible show BO _ _ _ .Add (.flt _) (.flt _) _); refine BO_add_ff ?_) | ((with_reducible show BO _ _ _ .Sub (.flt _) (.flt _) _); refine BO_sub_ff ?_) | ((with_reducible show BO _ _ _ .Add (.int _) (.int _) _); refine BO_add_ii ?_) | ((with_reducible show BO _ _ _ .Sub (.int _) (.int _) _); refine BO_sub_ii ?_) | ((with_reducible show BO _ _ _ .Mult (.int _) (.int _) _); refine BO_mul_ii (by first | exact mulL (by omega) (by omega) | exact mulR (by omega) (by omega)) ?_) | ((with_reducible show BO _ _ _ .Pow (.int _) (.int _) _); first | refine BO_pow_eq pow40 (by decide) (by decide) ?_ | refine BO_pow_eq pow52 (by decide) (by decide) ?_ | refine BO_pow_eq pow53 (by decide) (by decide) ?_ | refine BO_pow2 (by omega) (by omega) ?_) | ((with_reducible show BO _ _ _ .Mod (.int _) (.int _) _); refine BO_mod_p (by omega) ?_) | ((with_reducible show BO _ _ _ .FloorDiv (.int _) (.int _) _); refine BO_div_p (by omega) (by omega) ?_) | ((with_reducible show BO _ _ _ .Div (.int _) (.int _) _); refine BO_div_s (Rm.handled (by first | assumption | apply_assumption)) (by omega) (by omega) (by omega) ?_) | ((with_reducible show IO _ _ _ (.tup _) (.int (OfNat.ofNat _)) _); refine IO_ti (by decide) rfl (by decide) ?_) | ((with_reducible show UO _ _ _ .USub (.int _) _); refine UO_neg_i ?_))
      generalize 9007199254740992 - wide / 2 = mean at hL ⊢
      obtain ⟨l1, l2, l3, l4, l5, l6⟩ := hL
      refine WS_cons ?_
      refine WX_assign (.inr ⟨rfl, rfl, rfl⟩) ?_
      refine WE_call_star GB (⟨hm3, ⟨o3, ho3, hd3⟩, hc3⟩ : FnAt _ _ _ _ _) rfl ?_
      repeat (first | ((with_reducible show WE _ _ _ _ _ _ (.BinOp _ _ _ _) _); refine WE_binop ?_) | ((with_reducible show WE _ _ _ _ _ _ (.Constant (.float _) _ _) _); refine WE_flt ?_) | ((with_reducible show WE _ _ _ _ _ _ (.Constant (.int _) _ _) _); refine WE_int ?_) | ((with_reducible show WE _ _ _ _ _ _ (.Constant (.bool _) _ _) _); refine WE_bool ?_) | ((with_reducible show WE _ _ _ _ _ _ (.Name _ _) _); first | refine WE_name rfl ?_ | refine WE_name (by assumption) ?_ | refine WE_name (comp_get (by assumption)) ?_) | ((with_reducible show WE _ _ _ _ _ _ (.Tuple _ _ _) _); refine WE_tuple ?_) | ((with_reducible show WE _ _ _ _ _ _ (.List _ _) _); refine WE_list ?_) | ((with_reducible show WE _ _ _ _ _ _ (.Subscript _ (.Slice _ _ none _) _) _); refine WE_cut ?_) | ((with_reducible show WE _ _ _ _ _ _ (.Subscript _ _ _) _); refine WE_item ?_) | ((with_reducible show WE _ _ _ _ _ _ (.UnaryOp _ _ _) _); refine WE_unary ?_) | ((with_reducible show WP _ _ _ _ _ _ (some _) _); refine WP_some ?_) | ((with_reducible show WP _ _ _ _ _ _ none _); refine WP_none ?_) | ((with_reducible show WEs _ _ _ _ _ _ (_ :: _) _); refine WEs_cons ?_) | ((with_reducible show WEs _ _ _ _ _ _ [] _); refine WEs_nil ?_) | ((with_reducible show BO _ _ _ .Mult (.flt _) (.flt _) _); refine BO_mul_ff ?_) | ((with_reducible show BO _ _ _ .Add (.flt _) (.flt _) _); refine BO_add_ff ?_) | ((with_reducible show BO _ _ _ .Sub (.flt _) (.flt _) _); refine BO_sub_ff ?_) | ((with_reducible show BO _ _ _ .Add (.int _) (.int _) _); refine BO_add_ii ?_) | ((with_reducible show BO _ _ _ .Sub (.int _) (.int _) _); refine BO_sub_ii ?_) | ((with_reducible show BO _ _ _ .Mult (.int _) (.int _) _); refine BO_mul_ii (by first | exact mulL (by omega) (by omega) | exact mulR (by omega) (by omega)) ?_) | ((with_reducible show BO _ _ _ .Pow (.int _) (.int _) _); first | refine BO_pow_eq pow40 (by decide) (by decide) ?_ | refine BO_pow_eq pow52 (by decide) (by decide) ?_ | refine BO_pow_eq pow53 (by decide) (by decide) ?_ | refine BO_pow2 (by omega) (by omega) ?_) | ((with_reducible show BO _ _ _ .Mod (.int _) (.int _) _); refine BO_mod_p (by omega) ?_) | ((with_reducible show BO _ _ _ .FloorDiv (.int _) (.int _) _); refine BO_div_p (by omega) (by omega) ?_) | ((with_reducible show BO _ _ _ .Div (.int _) (.int _) _); refine BO_div_s (Rm.handled (by first | assumption | apply_assumption)) (by omega) (by omega) (by omega) ?_) | ((with_reducible show IO _ _ _ (.tup _) (.int (OfNat.ofNat _)) _); refine IO_ti (by decide) rfl (by decide) ?_) | ((with_reducible show UO _ _ _ .USub (.int _) _); refine UO_neg_i ?_))
      refine ⟨_, rfl, by simp, ?_⟩
      refine WC.mono (toHls _ (hA _).less _ _ _ l1) ?_
      rintro d rfl
      refine WS_cons ?_
      refine WX_if (WT_or (WT_compare ?_))
      repeat (first | ((with_reducible show WE _ _ _ _ _ _ (.BinOp _ _ _ _) _); refine WE_binop ?_) | ((with_reducible show WE _ _ _ _ _ _ (.Constant (.float _) _ _) _); refine WE_flt ?_) | ((with_reducible show WE _ _ _ _ _ _ (.Constant (.int _) _ _) _); refine WE_int ?_) | ((with_reducible show WE _ _ _ _ _ _ (.Constant (.bool _) _ _) _); refine WE_bool ?_) | ((with_reducible show WE _ _ _ _ _ _ (.Name _ _) _); first | refine WE_name rfl ?_ | refine WE_name (by assumption) ?_ | refine WE_name (comp_get (by assumption)) ?_) | ((with_reducible show WE _ _ _ _ _ _ (.Tuple _ _ _) _); refine WE_tuple ?_) | ((with_reducible show WE _ _ _ _ _ _ (.List _ _) _); refine WE_list ?_) | ((with_reducible show WE _ _ _ _ _ _ (.Subscript _ (.Slice _ _ none _) _) _); refine WE_cut ?_) | ((with_reducible show WE _ _ _ _ _ _ (.Subscript _ _ _) _); refine WE_item ?_) | ((with_reducible show WE _ _ _ _ _ _ (.UnaryOp _ _ _) _); refine WE_unary ?_) | ((with_reducible show WP _ _ _ _ _ _ (some _) _); refine WP_some ?_) | ((with_reducible show WP _ _ _ _ _ _ none _); refine WP_none ?_) | ((with_reducible show WEs _ _ _ _ _ _ (_ :: _) _); refine WEs_cons ?_) | ((with_reducible show WEs _ _ _ _ _ _ [] _); refine WEs_nil ?_) | ((with_reducible show BO _ _ _ .Mult (.flt _) (.flt _) _); refine BO_mul_ff ?_) | ((with_reducible show BO _ _ _ .Add (.flt _) (.flt _) _); refine BO_add_ff ?_) | ((with_reducible show BO _ _ _ .Sub (.flt _) (.flt _) _); refine BO_sub_ff ?_) | ((with_reducible show BO _ _ _ .Add (.int _) (.int _) _); refine BO_add_ii ?_) | ((with_reducible show BO _ _ _ .Sub (.int _) (.int _) _); refine BO_sub_ii ?_) | ((with_reducible show BO _ _ _ .Mult (.int _) (.int _) _); refine BO_mul_ii (by first | exact mulL (by omega) (by omega) | exact mulR (by omega) (by omega)) ?_) | ((with_reducible show BO _ _ _ .Pow (.int _) (.int _) _); first | refine BO_pow_eq pow40 (by decide) (by decide) ?_ | refine BO_pow_eq pow52 (by decide) (by decide) ?_ | refine BO_pow_eq pow53 (by decide) (by decide) ?_ | refine BO_pow2 (by omega) (by omega) ?_) | ((with_reducible show BO _ _ _ .Mod (.int _) (.int _) _); refine BO_mod_p (by omega) ?_) | ((with_reducible show BO _ _ _ .FloorDiv (.int _) (.int _) _); refine BO_div_p (by omega) (by omega) ?_) | ((with_reducible show BO _ _ _ .Div (.int _) (.int _) _); refine BO_div_s (Rm.handled (by first | assumption | apply_assumption)) (by omega) (by omega) (by omega) ?_) | ((with_reducible show IO _ _ _ (.tup _) (.int (OfNat.ofNat _)) _); refine IO_ti (by decide) rfl (by decide) ?_) | ((with_reducible show UO _ _ _ .USub (.int _) _); refine UO_neg_i ?_))
      refine WE_call_star GB (⟨hm4, ⟨o4, ho4, hd4⟩, hc4⟩ : FnAt _ _ _ _ _) rfl ?_
      repeat (first | ((with_reducible show WE _ _ _ _ _ _ (.BinOp _ _ _ _) _); refine WE_binop ?_) | ((with_reducible show WE _ _ _ _ _ _ (.Constant (.float _) _ _) _); refine WE_flt ?_) | ((with_reducible show WE _ _ _ _ _ _ (.Constant (.int _) _ _) _); refine WE_int ?_) | ((with_reducible show WE _ _ _ _ _ _ (.Constant (.bool _) _ _) _); refine WE_bool ?_) | ((with_reducible show WE _ _ _ _ _ _ (.Name _ _) _); first | refine WE_name rfl ?_ | refine WE_name (by assumption) ?_ | refine WE_name (comp_get (by assumption)) ?_) | ((with_reducible show WE _ _ _ _ _ _ (.Tuple _ _ _) _); refine WE_tuple ?_) | ((with_reducible show WE _ _ _ _ _ _ (.List _ _) _); refine WE_list ?_) | ((with_reducible show WE _ _ _ _ _ _ (.Subscript _ (.Slice _ _ none _) _) _); refine WE_cut ?_) | ((with_reducible show WE _ _ _ _ _ _ (.Subscript _ _ _) _); refine WE_item ?_) | ((with_reducible show WE _ _ _ _ _ _ (.UnaryOp _ _ _) _); refine WE_unary ?_) | ((with_reducible show WP _ _ _ _ _ _ (some _) _); refine WP_some ?_) | ((with_reducible show WP _ _ _ _ _ _ none _); refine WP_none ?_) | ((with_reducible show WEs _ _ _ _ _ _ (_ :: _) _); refine WEs_cons ?_) | ((with_reducible show WEs _ _ _ _ _ _ [] _); refine WEs_nil ?_) | ((with_reducible show BO _ _ _ .Mult (.flt _) (.flt _) _); refine BO_mul_ff ?_) | ((with_reducible show BO _ _ _ .Add (.flt _) (.flt _) _); refine BO_add_ff ?_) | ((with_reducible show BO _ _ _ .Sub (.flt _) (.flt _) _); refine BO_sub_ff ?_) | ((with_reducible show BO _ _ _ .Add (.int _) (.int _) _); refine BO_add_ii ?_) | ((with_reducible show BO _ _ _ .Sub (.int _) (.int _) _); refine BO_sub_ii ?_) | ((with_reducible show BO _ _ _ .Mult (.int _) (.int _) _); refine BO_mul_ii (by first | exact mulL (by omega) (by omega) | exact mulR (by omega) (by omega)) ?_) | ((with_reducible show BO _ _ _ .Pow (.int _) (.int _) _); first | refine BO_pow_eq pow40 (by decide) (by decide) ?_ | refine BO_pow_eq pow52 (by decide) (by decide) ?_ | refine BO_pow_eq pow53 (by decide) (by decide) ?_ | refine BO_pow2 (by omega) (by omega) ?_) | ((with_reducible show BO _ _ _ .Mod (.int _) (.int _) _); refine BO_mod_p (by omega) ?_) | ((with_reducible show BO _ _ _ .FloorDiv (.int _) (.int _) _); refine BO_div_p (by omega) (by omega) ?_) | ((with_reducible show BO _ _ _ .Div (.int _) (.int _) _); refine BO_div_s (Rm.handled (by first | assumption | apply_assumption)) (by omega) (by omega) (by omega) ?_) | ((with_reducible show IO _ _ _ (.tup _) (.int (OfNat.ofNat _)) _); refine IO_ti (by decide) rfl (by decide) ?_) | ((with_reducible show UO _ _ _ .USub (.int _) _); refine UO_neg_i ?_))
      refine ⟨_, rfl, by simp, ?_⟩
      refine WC.mono (toHsv _ (hA _).less _ _ _ l2) ?_
      rintro d rfl
      repeat (first | ((with_reducible show WE _ _ _ _ _ _ (.BinOp _ _ _ _) _); refine WE_binop ?_) | ((with_reducible show WE _ _ _ _ _ _ (.Constant (.float _) _ _) _); refine WE_flt ?_) | ((with_reducible show WE _ _ _ _ _ _ (.Constant (.int _) _ _) _); refine WE_int ?_) | ((with_reducible show WE _ _ _ _ _ _ (.Constant (.bool _) _ _) _); refine WE_bool ?_) | ((with_reducible show WE _ _ _ _ _ _ (.Name _ _) _); first | refine WE_name rfl ?_ | refine WE_name (by assumption) ?_ | refine WE_name (comp_get (by assumption)) ?_) | ((with_reducible show WE _ _ _ _ _ _ (.Tuple _ _ _) _); refine WE_tuple ?_) | ((with_reducible show WE _ _ _ _ _ _ (.List _ _) _); refine WE_list ?_) | ((with_reducible show WE _ _ _ _ _ _ (.Subscript _ (.Slice _ _ none _) _) _); refine WE_cut ?_) | ((with_reducible show WE _ _ _ _ _ _ (.Subscript _ _ _) _); refine WE_item ?_) | ((with_reducible show WE _ _ _ _ _ _ (.UnaryOp _ _ _) _); refine WE_unary ?_) | ((with_reducible show WP _ _ _ _ _ _ (some _) _); refine WP_some ?_) | ((with_reducible show WP _ _ _ _ _ _ none _); refine WP_none ?_) | ((with_reducible show WEs _ _ _ _ _ _ (_ :: _) _); refine WEs_cons ?_) | ((with_reducible show WEs _ _ _ _ _ _ [] _); refine WEs_nil ?_) | ((with_reducible show BO _ _ _ .Mult (.flt _) (.flt _) _); refine BO_mul_ff ?_) | ((with_reducible show BO _ _ _ .Add (.flt _) (.flt _) _); refine BO_add_ff ?_) | ((with_reducible show BO _ _ _ .Sub (.flt _) (.flt _) _); refine BO_sub_ff ?_) | ((with_reducible show BO _ _ _ .Add (.int _) (.int _) _); refine BO_add_ii ?_) | ((with_reducible show BO _ _ _ .Sub (.int _) (.int _) _); refine BO_sub_ii ?_) | ((with_reducible show BO _ _ _ .Mult (.int _) (.int _) _); refine BO_mul_ii (by first | exact mulL (by omega) (by omega) | exact mulR (by omega) (by omega)) ?_) | ((with_reducible show BO _ _ _ .Pow (.int _) (.int _) _); first | refine BO_pow_eq pow40 (by decide) (by decide) ?_ | refine BO_pow_eq pow52 (by decide) (by decide) ?_ | refine BO_pow_eq pow53 (by decide) (by decide) ?_ | refine BO_pow2 (by omega) (by omega) ?_) | ((with_reducible show BO _ _ _ .Mod (.int _) (.int _) _); refine BO_mod_p (by omega) ?_) | ((with_reducible show BO _ _ _ .FloorDiv (.int _) (.int _) _); refine BO_div_p (by omega) (by omega) ?_) | ((with_reducible show BO _ _ _ .Div (.int _) (.int _) _); refine BO_div_s (Rm.handled (by first | assumption | apply_assumption)) (by omega) (by omega) (by omega) ?_) | ((with_reducible show IO _ _ _ (.tup _) (.int (OfNat.ofNat _)) _); refine IO_ti (by decide) rfl (by decide) ?_) | ((with_reducible show UO _ _ _ .USub (.int _) _); refine UO_neg_i ?_))
      refine CO_ne_ff ?_
      rw [neC l3]
      show WT _ _ _ _ _ _ _ _
      refine WT_or (WT_compare ?_)
      repeat (first | ((with_reducible show WE _ _ _ _ _ _ (.BinOp _ _ _ _) _); refine WE_binop ?_) | ((with_reducible show WE _ _ _ _ _ _ (.Constant (.float _) _ _) _); refine WE_flt ?_) | ((with_reducible show WE _ _ _ _ _ _ (.Constant (.int _) _ _) _); refine WE_int ?_) | ((with_reducible show WE _ _ _ _ _ _ (.Constant (.bool _) _ _) _); refine WE_bool ?_) | ((with_reducible show WE _ _ _ _ _ _ (.Name _ _) _); first | refine WE_name rfl ?_ | refine WE_name (by assumption) ?_ | refine WE_name (comp_get (by assumption)) ?_) | ((with_reducible show WE _ _ _ _ _ _ (.Tuple _ _ _) _); refine WE_tuple ?_) | ((with_reducible show WE _ _ _ _ _ _ (.List _ _) _); refine WE_list ?_) | ((with_reducible show WE _ _ _ _ _ _ (.Subscript _ (.Slice _ _ none _) _) _); refine WE_cut ?_) | ((with_reducible show WE _ _ _ _ _ _ (.Subscript _ _ _) _); refine WE_item ?_) | ((with_reducible show WE _ _ _ _ _ _ (.UnaryOp _ _ _) _); refine WE_unary ?_) | ((with_reducible show WP _ _ _ _ _ _ (some _) _); refine WP_some ?_) | ((with_reducible show WP _ _ _ _ _ _ none _); refine WP_none ?_) | ((with_reducible show WEs _ _ _ _ _ _ (_ :: _) _); refine WEs_cons ?_) | ((with_reducible show WEs _ _ _ _ _ _ [] _); refine WEs_nil ?_) | ((with_reducible show BO _ _ _ .Mult (.flt _) (.flt _) _); refine BO_mul_ff ?_) | ((with_reducible show BO _ _ _ .Add (.flt _) (.flt _) _); refine BO_add_ff ?_) | ((with_reducible show BO _ _ _ .Sub (.flt _) (.flt _) _); refine BO_sub_ff ?_) | ((with_reducible show BO _ _ _ .Add (.int _) (.int _) _); refine BO_add_ii ?_) | ((with_reducible show BO _ _ _ .Sub (.int _) (.int _) _); refine BO_sub_ii ?_) | ((with_reducible show BO _ _ _ .Mult (.int _) (.int _) _); refine BO_mul_ii (by first | exact mulL (by omega) (by omega) | exact mulR (by omega) (by omega)) ?_) | ((with_reducible show BO _ _ _ .Pow (.int _) (.int _) _); first | refine BO_pow_eq pow40 (by decide) (by decide) ?_ | refine BO_pow_eq pow52 (by decide) (by decide) ?_ | refine BO_pow_eq pow53 (by decide) (by decide) ?_ | refine BO_pow2 (by omega) (by omega) ?_) | ((with_reducible show BO _ _ _ .Mod (.int _) (.int _) _); refine BO_mod_p (by omega) ?_) | ((with_reducible show BO _ _ _ .FloorDiv (.int _) (.int _) _); refine BO_div_p (by omega) (by omega) ?_) | ((with_reducible show BO _ _ _ .Div (.int _) (.int _) _); refine BO_div_s (Rm.handled (by first | assumption | apply_assumption)) (by omega) (by omega) (by omega) ?_) | ((with_reducible show IO _ _ _ (.tup _) (.int (OfNat.ofNat _)) _); refine IO_ti (by decide) rfl (by decide) ?_) | ((with_reducible show UO _ _ _ .USub (.int _) _); refine UO_neg_i ?_))
      refine WE.mono (Q := fun d => ∃ u, d = .flt u ∧ eqC (toS LR LG LB) u) ?_ ?_
      · refine WE_ifexp (WT_compare ?_)
        repeat (first | ((with_reducible show WE _ _ _ _ _ _ (.BinOp _ _ _ _) _); refine WE_binop ?_) | ((with_reducible show WE _ _ _ _ _ _ (.Constant (.float _) _ _) _); refine WE_flt ?_) | ((with_reducible show WE _ _ _ _ _ _ (.Constant (.int _) _ _) _); refine WE_int ?_) | ((with_reducible show WE _ _ _ _ _ _ (.Constant (.bool _) _ _) _); refine WE_bool ?_) | ((with_reducible show WE _ _ _ _ _ _ (.Name _ _) _); first | refine WE_name rfl ?_ | refine WE_name (by assumption) ?_ | refine WE_name (comp_get (by assumption)) ?_) | ((with_reducible show WE _ _ _ _ _ _ (.Tuple _ _ _) _); refine WE_tuple ?_) | ((with_reducible show WE _ _ _ _ _ _ (.List _ _) _); refine WE_list ?_) | ((with_reducible show WE _ _ _ _ _ _ (.Subscript _ (.Slice _ _ none _) _) _); refine WE_cut ?_) | ((with_reducible show WE _ _ _ _ _ _ (.Subscript _ _ _) _); refine WE_item ?_) | ((with_reducible show WE _ _ _ _ _ _ (.UnaryOp _ _ _) _); refine WE_unary ?_) | ((with_reducible show WP _ _ _ _ _ _ (some _) _); refine WP_some ?_) | ((with_reducible show WP _ _ _ _ _ _ none _); refine WP_none ?_) | ((with_reducible show WEs _ _ _ _ _ _ (_ :: _) _); refine WEs_cons ?_) | ((with_reducible show WEs _ _ _ _ _ _ [] _); refine WEs_nil ?_) | ((with_reducible show BO _ _ _ .Mult (.flt _) (.flt _) _); refine BO_mul_ff ?_) | ((with_reducible show BO _ _ _ .Add (.flt _) (.flt _) _); refine BO_add_ff ?_) | ((with_reducible show BO _ _ _ .Sub (.flt _) (.flt _) _); refine BO_sub_ff ?_) | ((with_reducible show BO _ _ _ .Add (.int _) (.int _) _); refine BO_add_ii ?_) | ((with_reducible show BO _ _ _ .Sub (.int _) (.int _) _); refine BO_sub_ii ?_) | ((with_reducible show BO _ _ _ .Mult (.int _) (.int _) _); refine BO_mul_ii (by first | exact mulL (by omega) (by omega) | exact mulR (by omega) (by omega)) ?_) | ((with_reducible show BO _ _ _ .Pow (.int _) (.int _) _); first | refine BO_pow_eq pow40 (by decide) (by decide) ?_ | refine BO_pow_eq pow52 (by decide) (by decide) ?_ | refine BO_pow_eq pow53 (by decide) (by decide) ?_ | refine BO_pow2 (by omega) (by omega) ?_) | ((with_reducible show BO _ _ _ .Mod (.int _) (.int _) _); refine BO_mod_p (by omega) ?_) | ((with_reducible show BO _ _ _ .FloorDiv (.int _) (.int _) _); refine BO_div_p (by omega) (by omega) ?_) | ((with_reducible show BO _ _ _ .Div (.int _) (.int _) _); refine BO_div_s (Rm.handled (by first | assumption | apply_assumption)) (by omega) (by omega) (by omega) ?_) | ((with_reducible show IO _ _ _ (.tup _) (.int (OfNat.ofNat _)) _); refine IO_ti (by decide) rfl (by decide) ?_) | ((with_reducible show UO _ _ _ .USub (.int _) _); refine UO_neg_i ?_))
        refine CO_gt_ii ?_
        by_cases wz : 0 < wide
        · rw [decide_eq_true wz]
          show WE _ _ _ _ _ _ _ _
          repeat (first | ((with_reducible show WE _ _ _ _ _ _ (.BinOp _ _ _ _) _); refine WE_binop ?_) | ((with_reducible show WE _ _ _ _ _ _ (.Constant (.float _) _ _) _); refine WE_flt ?_) | ((with_reducible show WE _ _ _ _ _ _ (.Constant (.int _) _ _) _); refine WE_int ?_) | ((with_reducible show WE _ _ _ _ _ _ (.Constant (.bool _) _ _) _); refine WE_bool ?_) | ((with_reducible show WE _ _ _ _ _ _ (.Name _ _) _); first | refine WE_name rfl ?_ | refine WE_name (by assumption) ?_ | refine WE_name (comp_get (by assumption)) ?_) | ((with_reducible show WE _ _ _ _ _ _ (.Tuple _ _ _) _); refine WE_tuple ?_) | ((with_reducible show WE _ _ _ _ _ _ (.List _ _) _); refine WE_list ?_) | ((with_reducible show WE _ _ _ _ _ _ (.Subscript _ (.Slice _ _ none _) _) _); refine WE_cut ?_) | ((with_reducible show WE _ _ _ _ _ _ (.Subscript _ _ _) _); refine WE_item ?_) | ((with_reducible show WE _ _ _ _ _ _ (.UnaryOp _ _ _) _); refine WE_unary ?_) | ((with_reducible show WP _ _ _ _ _ _ (some _) _); refine WP_some ?_) | ((with_reducible show WP _ _ _ _ _ _ none _); refine WP_none ?_) | ((with_reducible show WEs _ _ _ _ _ _ (_ :: _) _); refine WEs_cons ?_) | ((with_reducible show WEs _ _ _ _ _ _ [] _); refine WEs_nil ?_) | ((with_reducible show BO _ _ _ .Mult (.flt _) (.flt _) _); refine BO_mul_ff ?_) | ((with_reducible show BO _ _ _ .Add (.flt _) (.flt _) _); refine BO_add_ff ?_) | ((with_reducible show BO _ _ _ .Sub (.flt _) (.flt _) _); refine BO_sub_ff ?_) | ((with_reducible show BO _ _ _ .Add (.int _) (.int _) _); refine BO_add_ii ?_) | ((with_reducible show BO _ _ _ .Sub (.int _) (.int _) _); refine BO_sub_ii ?_) | ((with_reducible show BO _ _ _ .Mult (.int _) (.int _) _); refine BO_mul_ii (by first | exact mulL (by omega) (by omega) | exact mulR (by omega) (by omega)) ?_) | ((with_reducible show BO _ _ _ .Pow (.int _) (.int _) _); first | refine BO_pow_eq pow40 (by decide) (by decide) ?_ | refine BO_pow_eq pow52 (by decide) (by decide) ?_ | refine BO_pow_eq pow53 (by decide) (by decide) ?_ | refine BO_pow2 (by omega) (by omega) ?_) | ((with_reducible show BO _ _ _ .Mod (.int _) (.int _) _); refine BO_mod_p (by omega) ?_) | ((with_reducible show BO _ _ _ .FloorDiv (.int _) (.int _) _); refine BO_div_p (by omega) (by omega) ?_) | ((with_reducible show BO _ _ _ .Div (.int _) (.int _) _); refine BO_div_s (Rm.handled (by first | assumption | apply_assumption)) (by omega) (by omega) (by omega) ?_) | ((with_reducible show IO _ _ _ (.tup _) (.int (OfNat.ofNat _)) _); refine IO_ti (by decide) rfl (by decide) ?_) | ((with_reducible show UO _ _ _ .USub (.int _) _); refine UO_neg_i ?_))
          exact ⟨_, rfl, l4 wz⟩
        · rw [decide_eq_false wz]
          show WE _ _ _ _ _ _ _ _
          repeat (first | ((with_reducible show WE _ _ _ _ _ _ (.BinOp _ _ _ _) _); refine WE_binop ?_) | ((with_reducible show WE _ _ _ _ _ _ (.Constant (.float _) _ _) _); refine WE_flt ?_) | ((with_reducible show WE _ _ _ _ _ _ (.Constant (.int _) _ _) _); refine WE_int ?_) | ((with_reducible show WE _ _ _ _ _ _ (.Constant (.bool _) _ _) _); refine WE_bool ?_) | ((with_reducible show WE _ _ _ _ _ _ (.Name _ _) _); first | refine WE_name rfl ?_ | refine WE_name (by assumption) ?_ | refine WE_name (comp_get (by assumption)) ?_) | ((with_reducible show WE _ _ _ _ _ _ (.Tuple _ _ _) _); refine WE_tuple ?_) | ((with_reducible show WE _ _ _ _ _ _ (.List _ _) _); refine WE_list ?_) | ((with_reducible show WE _ _ _ _ _ _ (.Subscript _ (.Slice _ _ none _) _) _); refine WE_cut ?_) | ((with_reducible show WE _ _ _ _ _ _ (.Subscript _ _ _) _); refine WE_item ?_) | ((with_reducible show WE _ _ _ _ _ _ (.UnaryOp _ _ _) _); refine WE_unary ?_) | ((with_reducible show WP _ _ _ _ _ _ (some _) _); refine WP_some ?_) | ((with_reducible show WP _ _ _ _ _ _ none _); refine WP_none ?_) | ((with_reducible show WEs _ _ _ _ _ _ (_ :: _) _); refine WEs_cons ?_) | ((with_reducible show WEs _ _ _ _ _ _ [] _); refine WEs_nil ?_) | ((with_reducible show BO _ _ _ .Mult (.flt _) (.flt _) _); refine BO_mul_ff ?_) | ((with_reducible show BO _ _ _ .Add (.flt _) (.flt _) _); refine BO_add_ff ?_) | ((with_reducible show BO _ _ _ .Sub (.flt _) (.flt _) _); refine BO_sub_ff ?_) | ((with_reducible show BO _ _ _ .Add (.int _) (.int _) _); refine BO_add_ii ?_) | ((with_reducible show BO _ _ _ .Sub (.int _) (.int _) _); refine BO_sub_ii ?_) | ((with_reducible show BO _ _ _ .Mult (.int _) (.int _) _); refine BO_mul_ii (by first | exact mulL (by omega) (by omega) | exact mulR (by omega) (by omega)) ?_) | ((with_reducible show BO _ _ _ .Pow (.int _) (.int _) _); first | refine BO_pow_eq pow40 (by decide) (by decide) ?_ | refine BO_pow_eq pow52 (by decide) (by decide) ?_ | refine BO_pow_eq pow53 (by decide) (by decide) ?_ | refine BO_pow2 (by omega) (by omega) ?_) | ((with_reducible show BO _ _ _ .Mod (.int _) (.int _) _); refine BO_mod_p (by omega) ?_) | ((with_reducible show BO _ _ _ .FloorDiv (.int _) (.int _) _); refine BO_div_p (by omega) (by omega) ?_) | ((with_reducible show BO _ _ _ .Div (.int _) (.int _) _); refine BO_div_s (Rm.handled (by first | assumption | apply_assumption)) (by omega) (by omega) (by omega) ?_) | ((with_reducible show IO _ _ _ (.tup _) (.int (OfNat.ofNat _)) _); refine IO_ti (by decide) rfl (by decide) ?_) | ((with_reducible show UO _ _ _ .USub (.int _) _); refine UO_neg_i ?_))
          exact ⟨_, rfl, l5 wz⟩
      rintro d ⟨u, rfl, hu⟩
      refine CO_ne_ff ?_
      rw [neC hu]
      show WT _ _ _ _ _ _ _ _
      refine WT_or_nil ?_
      show WS _ _ _ _ _ _ _ _
      refine WS_nil ?_
      refine WS_cons ?_
      refine WX_if (WT_compare ?_)
      repeat (first | ((with_reducible show WE _ _ _ _ _ _ (.BinOp _ _ _ _) _); refine WE_binop ?_) | ((with_reducible show WE _ _ _ _ _ _ (.Constant (.float _) _ _) _); refine WE_flt ?_) | ((with_reducible show WE _ _ _ _ _ _ (.Constant (.int _) _ _) _); refine WE_int ?_) | ((with_reducible show WE _ _ _ _ _ _ (.Constant (.bool _) _ _) _); refine WE_bool ?_) | ((with_reducible show WE _ _ _ _ _ _ (.Name _ _) _); first | refine WE_name rfl ?_ | refine WE_name (by assumption) ?_ | refine WE_name (comp_get (by assumption)) ?_) | ((with_reducible show WE _ _ _ _ _ _ (.Tuple _ _ _) _); refine WE_tuple ?_) | ((with_reducible show WE _ _ _ _ _ _ (.List _ _) _); refine WE_list ?_) | ((with_reducible show WE _ _ _ _ _ _ (.Subscript _ (.Slice _ _ none _) _) _); refine WE_cut ?_) | ((with_reducible show WE _ _ _ _ _ _ (.Subscript _ _ _) _); refine WE_item ?_) | ((with_reducible show WE _ _ _ _ _ _ (.UnaryOp _ _ _) _); refine WE_unary ?_) | ((with_reducible show WP _ _ _ _ _ _ (some _) _); refine WP_some ?_) | ((with_reducible show WP _ _ _ _ _ _ none _); refine WP_none ?_) | ((with_reducible show WEs _ _ _ _ _ _ (_ :: _) _); refine WEs_cons ?_) | ((with_reducible show WEs _ _ _ _ _ _ [] _); refine WEs_nil ?_) | ((with_reducible show BO _ _ _ .Mult (.flt _) (.flt _) _); refine BO_mul_ff ?_) | ((with_reducible show BO _ _ _ .Add (.flt _) (.flt _) _); refine BO_add_ff ?_) | ((with_reducible show BO _ _ _ .Sub (.flt _) (.flt _) _); refine BO_sub_ff ?_) | ((with_reducible show BO _ _ _ .Add (.int _) (.int _) _); refine BO_add_ii ?_) | ((with_reducible show BO _ _ _ .Sub (.int _) (.int _) _); refine BO_sub_ii ?_) | ((with_reducible show BO _ _ _ .Mult (.int _) (.int _) _); refine BO_mul_ii (by first | exact mulL (by omega) (by omega) | exact mulR (by omega) (by omega)) ?_) | ((with_reducible show BO _ _ _ .Pow (.int _) (.int _) _); first | refine BO_pow_eq pow40 (by decide) (by decide) ?_ | refine BO_pow_eq pow52 (by decide) (by decide) ?_ | refine BO_pow_eq pow53 (by decide) (by decide) ?_ | refine BO_pow2 (by omega) (by omega) ?_) | ((with_reducible show BO _ _ _ .Mod (.int _) (.int _) _); refine BO_mod_p (by omega) ?_) | ((with_reducible show BO _ _ _ .FloorDiv (.int _) (.int _) _); refine BO_div_p (by omega) (by omega) ?_) | ((with_reducible show BO _ _ _ .Div (.int _) (.int _) _); refine BO_div_s (Rm.handled (by first | assumption | apply_assumption)) (by omega) (by omega) (by omega) ?_) | ((with_reducible show IO _ _ _ (.tup _) (.int (OfNat.ofNat _)) _); refine IO_ti (by decide) rfl (by decide) ?_) | ((with_reducible show UO _ _ _ .USub (.int _) _); refine UO_neg_i ?_))
      refine BO_mul_fi (by decide) ?_
      repeat (first | ((with_reducible show WE _ _ _ _ _ _ (.BinOp _ _ _ _) _); refine WE_binop ?_) | ((with_reducible show WE _ _ _ _ _ _ (.Constant (.float _) _ _) _); refine WE_flt ?_) | ((with_reducible show WE _ _ _ _ _ _ (.Constant (.int _) _ _) _); refine WE_int ?_) | ((with_reducible show WE _ _ _ _ _ _ (.Constant (.bool _) _ _) _); refine WE_bool ?_) | ((with_reducible show WE _ _ _ _ _ _ (.Name _ _) _); first | refine WE_name rfl ?_ | refine WE_name (by assumption) ?_ | refine WE_name (comp_get (by assumption)) ?_) | ((with_reducible show WE _ _ _ _ _ _ (.Tuple _ _ _) _); refine WE_tuple ?_) | ((with_reducible show WE _ _ _ _ _ _ (.List _ _) _); refine WE_list ?_) | ((with_reducible show WE _ _ _ _ _ _ (.Subscript _ (.Slice _ _ none _) _) _); refine WE_cut ?_) | ((with_reducible show WE _ _ _ _ _ _ (.Subscript _ _ _) _); refine WE_item ?_) | ((with_reducible show WE _ _ _ _ _ _ (.UnaryOp _ _ _) _); refine WE_unary ?_) | ((with_reducible show WP _ _ _ _ _ _ (some _) _); refine WP_some ?_) | ((with_reducible show WP _ _ _ _ _ _ none _); refine WP_none ?_) | ((with_reducible show WEs _ _ _ _ _ _ (_ :: _) _); refine WEs_cons ?_) | ((with_reducible show WEs _ _ _ _ _ _ [] _); refine WEs_nil ?_) | ((with_reducible show BO _ _ _ .Mult (.flt _) (.flt _) _); refine BO_mul_ff ?_) | ((with_reducible show BO _ _ _ .Add (.flt _) (.flt _) _); refine BO_add_ff ?_) | ((with_reducible show BO _ _ _ .Sub (.flt _) (.flt _) _); refine BO_sub_ff ?_) | ((with_reducible show BO _ _ _ .Add (.int _) (.int _) _); refine BO_add_ii ?_) | ((with_reducible show BO _ _ _ .Sub (.int _) (.int _) _); refine BO_sub_ii ?_) | ((with_reducible show BO _ _ _ .Mult (.int _) (.int _) _); refine BO_mul_ii (by first | exact mulL (by omega) (by omega) | exact mulR (by omega) (by omega)) ?_) | ((with_reducible show BO _ _ _ .Pow (.int _) (.int _) _); first | refine BO_pow_eq pow40 (by decide) (by decide) ?_ | refine BO_pow_eq pow52 (by decide) (by decide) ?_ | refine BO_pow_eq pow53 (by decide) (by decide) ?_ | refine BO_pow2 (by omega) (by omega) ?_) | ((with_reducible show BO _ _ _ .Mod (.int _) (.int _) _); refine BO_mod_p (by omega) ?_) | ((with_reducible show BO _ _ _ .FloorDiv (.int _) (.int _) _); refine BO_div_p (by omega) (by omega) ?_) | ((with_reducible show BO _ _ _ .Div (.int _) (.int _) _); refine BO_div_s (Rm.handled (by first | assumption | apply_assumption)) (by omega) (by omega) (by omega) ?_) | ((with_reducible show IO _ _ _ (.tup _) (.int (OfNat.ofNat _)) _); refine IO_ti (by decide) rfl (by decide) ?_) | ((with_reducible show UO _ _ _ .USub (.int _) _); refine UO_neg_i ?_))
      refine ⟨by simp, ?_⟩
      refine CO_notin_f2 l6 ?_
      show WS _ _ _ _ _ _ _ _
      refine WS_nil ?_
      exact WS_nil ⟨rfl, k1, k2, k3, k4⟩
    · intro σ _
      refine WS_cons ?_
      refine WX_return ?_
      repeat (first | ((with_reducible show WE _ _ _ _ _ _ (.BinOp _ _ _ _) _); refine WE_binop ?_) | ((with_reducible show WE _ _ _ _ _ _ (.Constant (.float _) _ _) _); refine WE_flt ?_) | ((with_reducible show WE _ _ _ _ _ _ (.Constant (.int _) _ _) _); refine WE_int ?_) | ((with_reducible show WE _ _ _ _ _ _ (.Constant (.bool _) _ _) _); refine WE_bool ?_) | ((with_reducible show WE _ _ _ _ _ _ (.Name _ _) _); first | refine WE_name rfl ?_ | refine WE_name (by assumption) ?_ | refine WE_name (comp_get (by assumption)) ?_) | ((with_reducible show WE _ _ _ _ _ _ (.Tuple _ _ _) _); refine WE_tuple ?_) | ((with_reducible show WE _ _ _ _ _ _ (.List _ _) _); refine WE_list ?_) | ((with_reducible show WE _ _ _ _ _ _ (.Subscript _ (.Slice _ _ none _) _) _); refine WE_cut ?_) | ((with_reducible show WE _ _ _ _ _ _ (.Subscript _ _ _) _); refine WE_item ?_) | ((with_reducible show WE _ _ _ _ _ _ (.UnaryOp _ _ _) _); refine WE_unary ?_) | ((with_reducible show WP _ _ _ _ _ _ (some _) _); refine WP_some ?_) | ((with_reducible show WP _ _ _ _ _ _ none _); refine WP_none ?_) | ((with_reducible show WEs _ _ _ _ _ _ (_ :: _) _); refine WEs_cons ?_) | ((with_reducible show WEs _ _ _ _ _ _ [] _); refine WEs_nil ?_) | ((with_reducible show BO _ _ _ .Mult (.flt _) (.flt _) _); refine BO_mul_ff ?_) | ((with_reducible show BO _ _ _ .Add (.flt _) (.flt _) _); refine BO_add_ff ?_) | ((with_reducible show BO _ _ _ .Sub (.flt _) (.flt _) _); refine BO_sub_ff ?_) | ((with_reducible show BO _ _ _ .Add (.int _) (.int _) _); refine BO_add_ii ?_) | ((with_reducible show BO _ _ _ .Sub (.int _) (.int _) _); refine BO_sub_ii ?_) | ((with_reducible show BO _ _ _ .Mult (.int _) (.int _) _); refine BO_mul_ii (by first | exact mulL (by omega) (by omega) | exact mulR (by omega) (by omega)) ?_) | ((with_reducible show BO _ _ _ .Pow (.int _) (.int _) _); first | refine BO_pow_eq pow40 (by decide) (by decide) ?_ | refine BO_pow_eq pow52 (by decide) (by decide) ?_ | refine BO_pow_eq pow53 (by decide) (by decide) ?_ | refine BO_pow2 (by omega) (by omega) ?_) | ((with_reducible show BO _ _ _ .Mod (.int _) (.int _) _); refine BO_mod_p (by omega) ?_) | ((with_reducible show BO _ _ _ .FloorDiv (.int _) (.int _) _); refine BO_div_p (by omega) (by omega) ?_) | ((with_reducible show BO _ _ _ .Div (.int _) (.int _) _); refine BO_div_s (Rm.handled (by first | assumption | apply_assumption)) (by omega) (by omega) (by omega) ?_) | ((with_reducible show IO _ _ _ (.tup _) (.int (OfNat.ofNat _)) _); refine IO_ti (by decide) rfl (by decide) ?_) | ((with_reducible show UO _ _ _ .USub (.int _) _); refine UO_neg_i ?_))
      rfl
  · rintro u s' ⟨rfl, h1, h2, h3⟩
    exact good_true hg h1 h2 h3
  · exact fun _ _ f => f.elim

