import PyProof.Rows.All
import Wide.All
import OpenK.AllK
import Wide.FinOn
import PySem.Challenge.RW_dm0025_12
set_option Elab.async false
set_option linter.unusedVariables false
set_option linter.unusedSimpArgs false

section
open PySem PySem.W PyProof.Rows
namespace Mine

/-- plain data -/
inductive D where
  | none
  | bool (b : Bool)
  | int (i : Int)
  | flt (x : UInt64)
  | typ (n : String)
  | lst (xs : List D)
  | tup (xs : List D)

def PTup (h : Heap) (a : Addr) (items : Array Value) : Prop := ∃ n, h.get? a = some { cls := .type "tuple", data := .seq items n }
theorem PTup.isTuple {h : Heap} {a : Addr} {items : Array Value} (x : PTup h a items) : h.IsTuple a items := let ⟨n, ho⟩ := x; ⟨_, ho, rfl, n, rfl⟩

mutual
/-- the value v stands for the datum, by objects outside of X -/
def Rep (h : Heap) (X : List Addr) : D → Value → Prop
  | .none, v => v = .none
  | .bool b, v => v = .bool b
  | .int i, v => ∃ t, v = .int i t
  | .flt x, v => ∃ t, v = .float x t ∧ t ≠ 0
  | .typ n, v => v = .type n
  | .lst ds, v => ∃ a vs, v = .ref a ∧ a ∉ X ∧ h.PlainList a (List.toArray vs) ∧ Reps h X ds vs
  | .tup ds, v => ∃ a vs, v = .ref a ∧ a ∉ X ∧ PTup h a (List.toArray vs) ∧ Reps h X ds vs
def Reps (h : Heap) (X : List Addr) : List D → List Value → Prop
  | [], vs => vs = []
  | d :: ds, vs => ∃ v vs', vs = v :: vs' ∧ Rep h X d v ∧ Reps h X ds vs'
end

theorem isTuple_at {h h' : Heap} {a : Addr} {items} (x : PTup h a items) (e : ∀ o, h.get? a = some o → h'.get? a = some o) : PTup h' a items :=
  let ⟨n, ho⟩ := x; ⟨n, e _ ho⟩

mutual
theorem Rep.mono {h h' : Heap} {X X' : List Addr} (hk : ∀ a o, a ∉ X → h.get? a = some o → h'.get? a = some o ∧ a ∉ X') : ∀ {d : D} {v : Value}, Rep h X d v → Rep h' X' d v
  | .none, _, r => r
  | .bool _, _, r => r
  | .int _, _, r => r
  | .flt _, _, r => r
  | .typ _, _, r => r
  | .lst ds, _, ⟨a, vs, e, ha, hl, hr⟩ => by
    obtain ⟨n, ho⟩ := id hl
    exact ⟨a, vs, e, (hk a _ ha ho).2, hl.at fun o e => (hk a o ha e).1, Reps.mono hk hr⟩
  | .tup ds, _, ⟨a, vs, e, ha, hl, hr⟩ => by
    obtain ⟨n, ho⟩ := id hl
    exact ⟨a, vs, e, (hk a _ ha ho).2, isTuple_at hl fun o e => (hk a o ha e).1, Reps.mono hk hr⟩
theorem Reps.mono {h h' : Heap} {X X' : List Addr} (hk : ∀ a o, a ∉ X → h.get? a = some o → h'.get? a = some o ∧ a ∉ X') : ∀ {ds : List D} {vs : List Value}, Reps h X ds vs → Reps h' X' ds vs
  | [], _, r => r
  | d :: ds, _, ⟨v, vs', e, r, rs⟩ => ⟨v, vs', e, Rep.mono hk r, Reps.mono hk rs⟩
end

theorem Rep.keeps {h h' : Heap} {X : List Addr} {d : D} {v : Value} (r : Rep h X d v) (hk : ∀ a o, h.get? a = some o → h'.get? a = some o) : Rep h' X d v :=
  r.mono fun a o ha e => ⟨hk a o e, ha⟩
theorem Reps.keeps {h h' : Heap} {X : List Addr} {ds : List D} {vs : List Value} (r : Reps h X ds vs) (hk : ∀ a o, h.get? a = some o → h'.get? a = some o) : Reps h' X ds vs :=
  r.mono fun a o ha e => ⟨hk a o e, ha⟩

theorem Reps.length {h : Heap} {X : List Addr} : ∀ {ds : List D} {vs : List Value}, Reps h X ds vs → vs.length = ds.length
  | [], _, r => by rw [r]; rfl
  | _ :: _, _, ⟨_, _, e, _, rs⟩ => by rw [e, List.length_cons, List.length_cons, Reps.length rs]
theorem Reps.get {h : Heap} {X : List Addr} : ∀ {ds : List D} {vs : List Value}, Reps h X ds vs → ∀ {i : Nat} {v : Value}, vs[i]? = some v → ∃ d, ds[i]? = some d ∧ Rep h X d v
  | [], _, r, i, v, e => by rw [r] at e; simp at e
  | d :: ds, _, ⟨v, vs', e, r, rs⟩, i, v', ev => by
    subst e
    cases i with
    | zero => simp at ev; subst ev; exact ⟨d, rfl, r⟩
    | succ i => simp at ev; obtain ⟨d', h1, h2⟩ := Reps.get rs ev; exact ⟨d', by simpa using h1, h2⟩
theorem Reps.at {h : Heap} {X : List Addr} : ∀ {ds : List D} {vs : List Value}, Reps h X ds vs → ∀ {i : Nat} {d : D}, ds[i]? = some d → ∃ v, vs[i]? = some v ∧ Rep h X d v
  | [], _, r, i, v, e => by simp at e
  | d :: ds, _, ⟨v, vs', e, r, rs⟩, i, d', ev => by
    subst e
    cases i with
    | zero => simp at ev; subst ev; exact ⟨v, rfl, r⟩
    | succ i => simp at ev; obtain ⟨v', h1, h2⟩ := Reps.at rs ev; exact ⟨v', by simpa using h1, h2⟩
theorem Reps.append {h : Heap} {X : List Addr} : ∀ {ds : List D} {vs : List Value}, Reps h X ds vs → ∀ {es : List D} {ws : List Value}, Reps h X es ws → Reps h X (ds ++ es) (vs ++ ws)
  | [], _, r, _, _, q => by rw [r]; exact q
  | d :: ds, _, ⟨v, vs', e, r, rs⟩, _, _, q => by subst e; exact ⟨v, _, rfl, r, Reps.append rs q⟩
theorem Reps.take {h : Heap} {X : List Addr} : ∀ {ds : List D} {vs : List Value}, Reps h X ds vs → ∀ n, Reps h X (ds.take n) (vs.take n)
  | [], _, r, n => by rw [r]; simp [Reps]
  | d :: ds, _, ⟨v, vs', e, r, rs⟩, 0 => by simp [Reps]
  | d :: ds, _, ⟨v, vs', e, r, rs⟩, n + 1 => by subst e; exact ⟨v, _, rfl, r, Reps.take rs n⟩
theorem Reps.drop {h : Heap} {X : List Addr} : ∀ {ds : List D} {vs : List Value}, Reps h X ds vs → ∀ n, Reps h X (ds.drop n) (vs.drop n)
  | [], _, r, n => by rw [r]; simp [Reps]
  | d :: ds, _, ⟨v, vs', e, r, rs⟩, 0 => by subst e; exact ⟨v, _, rfl, r, rs⟩
  | d :: ds, _, ⟨v, vs', e, r, rs⟩, n + 1 => by subst e; exact Reps.drop rs n
theorem Reps.one {h : Heap} {X : List Addr} {d : D} {v : Value} (r : Rep h X d v) : Reps h X [d] [v] := ⟨v, [], rfl, r, rfl⟩

/-- a variable's place: a datum, or a list that the frame alone holds -/
inductive Slot where
  | dat (d : D)
  | own (ds : List D)

abbrev Store := Str → Option Slot
def Store.set (σ : Store) (x : Str) (sl : Slot) : Store := fun y => if y = x then some sl else σ y

/-- the ground: the module's names -/
structure Base (B : Shared) (mg mb : Str → Option Value) : Prop where
  g : B.heap.Ns mainGlobals mg
  b : B.heap.Ns builtinsNs mb
  builtins : ∀ x : Str, x ≠ "__name__" → mb x = bootBuiltins x
  nolimit : B.heap.NoLimit
  told : NoneBooked B.heap

def Holds (env : Env) (m cm : Str → Option Value) (x : Str) (v : Value) : Prop :=
  match env.kindOf x with
  | some .local => m x = some v
  | some .cell => (env.cells.lookup x).isSome = true ∧ cm x = some v
  | some .free => (env.cells.lookup x).isSome = true ∧ cm x = some v
  | _ => False

def SlotRep (h : Heap) (O Hd : List Addr) (env : Env) : Slot → Value → Prop
  | .dat d, v => Rep h (O ++ Hd) d v
  | .own ds, v => ∃ a vs, v = .ref a ∧ a ∈ O ∧ a ≠ env.locals ∧ (∀ x c, env.cells.lookup x = some c → a ≠ c) ∧ h.PlainList a (List.toArray vs) ∧ Reps h (O ++ Hd) ds vs

structure Inv (B : Shared) (O Hd : List Addr) (env : Env) (σ : Store) (s : Shared) : Prop where
  same : ∃ h tk, s = { B with heap := h, toks := tk } ∧ 0 < tk
  base : ∀ b o, B.heap.get? b = some o → s.heap.get? b = some o ∧ b ∉ O ++ Hd
  live : ∀ a, a ∈ O ++ Hd → ∃ o, s.heap.get? a = some o
  disj : ∀ a, a ∈ O → a ∉ Hd
  kind : env.scope.kind = .function
  glob : env.globals = mainGlobals
  blt : env.builtins = builtinsNs
  loc : env.locals ∈ O
  cellIn : env.func.isSome = true → ∀ x c, env.cells.lookup x = some c → c ∈ O
  cellNe : ∀ x c, env.cells.lookup x = some c → c ≠ env.locals
  cellInj : ∀ x y c, env.cells.lookup x = some c → env.cells.lookup y = some c → x = y
  vars : ∃ m cm, s.heap.Ns env.locals m ∧ (∀ x c, env.cells.lookup x = some c → s.heap.IsCell c (cm x)) ∧
    ∀ x sl, σ x = some sl → ∃ v, Holds env m cm x v ∧ SlotRep s.heap O Hd env sl v
  one : ∀ x y ds es, σ x = some (.own ds) → σ y = some (.own es) → x = y

theorem SlotRep.keeps {h h' : Heap} {O Hd : List Addr} {env : Env} {sl : Slot} {v : Value} (r : SlotRep h O Hd env sl v) (hk : ∀ a o, h.get? a = some o → h'.get? a = some o) : SlotRep h' O Hd env sl v := by
  cases sl with
  | dat d => exact Rep.keeps r hk
  | own ds => obtain ⟨a, vs, e, h1, h2, h3, h4, h5⟩ := r; exact ⟨a, vs, e, h1, h2, h3, h4.at fun o e => hk _ o e, h5.keeps hk⟩

/-- nothing that stood is changed -/
structure Kp (s s' : Shared) : Prop where
  same : ∃ h' tk, s' = { s with heap := h', toks := tk } ∧ s.toks ≤ tk
  get : ∀ b o, s.heap.get? b = some o → s'.heap.get? b = some o
theorem Kp.refl (s : Shared) : Kp s s := ⟨⟨s.heap, s.toks, rfl, Nat.le_refl _⟩, fun _ _ e => e⟩
theorem Kp.trans {s s' s'' : Shared} (k : Kp s s') (k' : Kp s' s'') : Kp s s'' := by
  refine ⟨?_, fun b o e => k'.get b o (k.get b o e)⟩
  obtain ⟨h', tk', rfl, ht⟩ := k.same
  obtain ⟨h'', tk'', rfl, ht'⟩ := k'.same
  exact ⟨h'', tk'', rfl, Nat.le_trans ht ht'⟩
theorem Kp.tok (s : Shared) (t : Nat) (ht : s.toks ≤ t := by exact Nat.le_succ _) : Kp s { s with toks := t } := ⟨⟨s.heap, t, rfl, ht⟩, fun _ _ e => e⟩
theorem Kp.push (s : Shared) (o : Obj) : Kp s { s with heap := s.heap.push o } := ⟨⟨_, s.toks, rfl, Nat.le_refl _⟩, fun _ _ e => Heap.get?_push_of_some _ e⟩
theorem Kp.mk' {s : Shared} {h' : Heap} {tk : Nat} (hk : ∀ b o, s.heap.get? b = some o → h'.get? b = some o) (ht : s.toks ≤ tk := by omega) : Kp s { s with heap := h', toks := tk } := ⟨⟨h', tk, rfl, ht⟩, hk⟩

theorem Inv.keeps {B : Shared} {O Hd : List Addr} {env : Env} {σ : Store} {s s' : Shared} (I : Inv B O Hd env σ s) (k : Kp s s') : Inv B O Hd env σ s' := by
  obtain ⟨⟨h', tk', rfl, ht⟩, hk⟩ := k
  obtain ⟨h, tk, hs, h0⟩ := I.same
  obtain ⟨m, cm, hn, hc, hv⟩ := I.vars
  refine ⟨⟨h', tk', by rw [hs], by rw [hs] at ht; exact Nat.lt_of_lt_of_le h0 ht⟩, fun b o e => ⟨hk _ _ (I.base b o e).1, (I.base b o e).2⟩, fun a ha => ?_, I.disj, I.kind, I.glob, I.blt, I.loc, I.cellIn, I.cellNe, I.cellInj, ?_, I.one⟩
  · obtain ⟨o, ho⟩ := I.live a ha; exact ⟨o, hk _ _ ho⟩
  · exact ⟨m, cm, hn.keeps hk, fun x c e => (hc x c e).keeps hk, fun x sl e => by obtain ⟨v, h1, h2⟩ := hv x sl e; exact ⟨v, h1, h2.keeps hk⟩⟩

theorem Inv.pos {B : Shared} {O Hd : List Addr} {env : Env} {σ : Store} {s : Shared} (I : Inv B O Hd env σ s) : s.toks ≠ 0 := by
  obtain ⟨h, tk, e, h0⟩ := I.same; subst e; exact Nat.ne_of_gt h0

theorem rep_bool {h : Heap} {X : List Addr} {b : Bool} : Rep h X (.bool b) (.bool b) := by unfold Rep; rfl
theorem rep_int {h : Heap} {X : List Addr} {i : Int} {t : Tok} : Rep h X (.int i) (.int i t) := by unfold Rep; exact ⟨t, rfl⟩
theorem rep_flt {h : Heap} {X : List Addr} {x : UInt64} {t : Tok} (ht : t ≠ 0) : Rep h X (.flt x) (.float x t) := by unfold Rep; exact ⟨t, rfl, ht⟩
theorem rep_lst {h : Heap} {X : List Addr} {ds : List D} {a : Addr} {vs : List Value} (ha : a ∉ X) (hl : h.PlainList a vs.toArray) (r : Reps h X ds vs) : Rep h X (.lst ds) (.ref a) := by unfold Rep; exact ⟨a, vs, rfl, ha, hl, r⟩
theorem rep_tup {h : Heap} {X : List Addr} {ds : List D} {a : Addr} {vs : List Value} (ha : a ∉ X) (hl : PTup h a vs.toArray) (r : Reps h X ds vs) : Rep h X (.tup ds) (.ref a) := by unfold Rep; exact ⟨a, vs, rfl, ha, hl, r⟩
theorem Rep.bool_inv {h : Heap} {X : List Addr} {b : Bool} {v : Value} (r : Rep h X (.bool b) v) : v = .bool b := by unfold Rep at r; exact r
theorem Rep.int_inv {h : Heap} {X : List Addr} {i : Int} {v : Value} (r : Rep h X (.int i) v) : ∃ t, v = .int i t := by unfold Rep at r; exact r
theorem Rep.flt_inv {h : Heap} {X : List Addr} {x : UInt64} {v : Value} (r : Rep h X (.flt x) v) : ∃ t, v = .float x t ∧ t ≠ 0 := by unfold Rep at r; exact r
theorem Rep.typ_inv {h : Heap} {X : List Addr} {n : String} {v : Value} (r : Rep h X (.typ n) v) : v = .type n := by unfold Rep at r; exact r
theorem Rep.lst_inv {h : Heap} {X : List Addr} {ds : List D} {v : Value} (r : Rep h X (.lst ds) v) : ∃ a vs, v = .ref a ∧ a ∉ X ∧ h.PlainList a (List.toArray vs) ∧ Reps h X ds vs := by unfold Rep at r; exact r
theorem Rep.tup_inv {h : Heap} {X : List Addr} {ds : List D} {v : Value} (r : Rep h X (.tup ds) v) : ∃ a vs, v = .ref a ∧ a ∉ X ∧ PTup h a (List.toArray vs) ∧ Reps h X ds vs := by unfold Rep at r; exact r

abbrev no : Value → Shared → Prop := fun _ _ => False

/-- the expression evaluates to a datum of which Q holds, and no object that stood is changed -/
def WE (prog : Program) (w : World) (B : Shared) (A : Around) (env : Env) (σ : Store) (e : Expr) (Q : D → Prop) : Prop :=
  ∀ O Hd s, Inv B O Hd env σ s → wpAny (model prog w) A (eval e env) (fun v s' => Kp s s' ∧ ∃ d, Rep s'.heap (O ++ Hd) d v ∧ Q d) no s

/-- a test -/
def WT (prog : Program) (w : World) (B : Shared) (A : Around) (env : Env) (σ : Store) (e : Expr) (Q : Bool → Prop) : Prop :=
  ∀ O Hd s, Inv B O Hd env σ s → wpAny (model prog w) A (isTrue e env (eval e env)) (fun b s' => Kp s s' ∧ Q b) no s

end Mine

end
section
open PySem PySem.W PySem.Calls PyProof.Rows
namespace Mine

structure Live (X : List Addr) (s : Shared) : Prop where
  at_ : ∀ a, a ∈ X → ∃ o, s.heap.get? a = some o
  pos : s.toks ≠ 0
theorem Live.keeps {X : List Addr} {s s' : Shared} (l : Live X s) (k : Kp s s') : Live X s' := ⟨fun a ha => by
  obtain ⟨o, ho⟩ := l.at_ a ha; exact ⟨o, k.get _ _ ho⟩, by
  obtain ⟨h, tk, e, ht⟩ := k.same; subst e; intro q; exact l.pos (Nat.le_zero.mp (q ▸ ht))⟩
theorem Inv.lives {B : Shared} {O Hd : List Addr} {env : Env} {σ : Store} {s : Shared} (I : Inv B O Hd env σ s) : Live (O ++ Hd) s := ⟨I.live, I.pos⟩
theorem Live.fresh {X : List Addr} {s : Shared} (l : Live X s) : s.heap.objs.size ∉ X := fun h => by
  obtain ⟨o, ho⟩ := l.at_ _ h; exact absurd (Heap.lt_size ho) (Nat.lt_irrefl _)

section
variable {prog : Program} {w : World} {B : Shared} {A : Around} {env : Env} {σ : Store}

/-- the state under a call: the ground, and what must not be met -/
structure Grd (B : Shared) (X : List Addr) (s : Shared) : Prop where
  same : ∃ h tk, s = { B with heap := h, toks := tk } ∧ 0 < tk
  base : ∀ b o, B.heap.get? b = some o → s.heap.get? b = some o ∧ b ∉ X
  live : Live X s
theorem Inv.grd {O Hd : List Addr} {s : Shared} (I : Inv B O Hd env σ s) : Grd B (O ++ Hd) s := ⟨I.same, I.base, I.lives⟩
def BO (prog : Program) (w : World) (A : Around) (op : Operator) (a b : D) (Q : D → Prop) : Prop :=
  ∀ X s va vb, Live X s → Rep s.heap X a va → Rep s.heap X b vb → wpAny (model prog w) A (binaryOp op va vb) (fun v s' => Kp s s' ∧ ∃ d, Rep s'.heap X d v ∧ Q d) no s
def CO (prog : Program) (w : World) (B : Shared) (A : Around) (op : CmpOp) (a b : D) (Q : Bool → Prop) : Prop :=
  ∀ X s va vb, Grd B X s → Rep s.heap X a va → Rep s.heap X b vb → wpAny (model prog w) A (compareOp op va vb) (fun v s' => Kp s s' ∧ ∃ c, v = .bool c ∧ Q c) no s
def UO (prog : Program) (w : World) (A : Around) (op : UnaryOp) (a : D) (Q : D → Prop) : Prop :=
  ∀ X s va, Live X s → Rep s.heap X a va → wpAny (model prog w) A (unaryOp op va) (fun v s' => Kp s s' ∧ ∃ d, Rep s'.heap X d v ∧ Q d) no s

theorem WE.mono {e : Expr} {Q Q' : D → Prop} (h : WE prog w B A env σ e Q) (hq : ∀ d, Q d → Q' d) : WE prog w B A env σ e Q' := fun O Hd s I =>
  wpAny_mono (h O Hd s I) (fun v s' ⟨k, d, r, q⟩ => ⟨k, d, r, hq d q⟩) fun _ _ f => f
theorem WT.mono {e : Expr} {Q Q' : Bool → Prop} (h : WT prog w B A env σ e Q) (hq : ∀ d, Q d → Q' d) : WT prog w B A env σ e Q' := fun O Hd s I =>
  wpAny_mono (h O Hd s I) (fun v s' ⟨k, q⟩ => ⟨k, hq _ q⟩) fun _ _ f => f

theorem WE_int {i : Int} {k : Nat} {pos : Pos} {Q : D → Prop} (q : Q (.int i)) : WE prog w B A env σ (.Constant (.int i) k pos) Q := fun O Hd s I =>
  wpAny_Constant_int ⟨Kp.tok _ _, _, rep_int, q⟩
theorem WE_flt {x : UInt64} {k : Nat} {pos : Pos} {Q : D → Prop} (q : Q (.flt x)) : WE prog w B A env σ (.Constant (.float x) k pos) Q := fun O Hd s I =>
  (show wpAny (model prog w) A (mkFloat x) _ _ s from fun _ _ _ => ⟨Kp.tok _ _, _, rep_flt I.pos, q⟩)
theorem WE_bool {b : Bool} {k : Nat} {pos : Pos} {Q : D → Prop} (q : Q (.bool b)) : WE prog w B A env σ (.Constant (.bool b) k pos) Q := fun O Hd s I =>
  Constant_bool ⟨Kp.refl _, _, rep_bool, q⟩
theorem Inv.load {O Hd : List Addr} {s : Shared} {M : Model} (I : Inv B O Hd env σ s) {x : Str} {sl : Slot} (hx : σ x = some sl) (hn : (x == ("__classdict__" : Str)) = false) {Q : Value → Shared → Prop} {E : Value → Shared → Prop}
    (h : ∀ v, SlotRep s.heap O Hd env sl v → Q v s) : wpAny M A (loadName env x) Q E s := by
  obtain ⟨m, cm, ns, cs, vs⟩ := I.vars
  obtain ⟨v, hv, r⟩ := vs x sl hx
  unfold Holds at hv
  split at hv
  · rename_i hk
    exact wpAny_loadName_local I.kind hk ns hv (h v r)
  · rename_i hk
    obtain ⟨c, hc⟩ := Option.isSome_iff_exists.mp hv.1
    exact wpAny_loadName_cell I.kind hk hc (hv.2 ▸ cs x c hc) (h v r)
  · rename_i hk
    obtain ⟨c, hc⟩ := Option.isSome_iff_exists.mp hv.1
    exact wpAny_loadName_free I.kind hk hc (hv.2 ▸ cs x c hc) (h v r) hn
  · exact hv.elim

theorem WE_name {x : Str} {pos : Pos} {d : D} {Q : D → Prop} (hx : σ x = some (.dat d)) (q : Q d)
    (hd : (x == ("__debug__" : Str)) = false := by decide) (hn : (x == ("__classdict__" : Str)) = false := by decide) : WE prog w B A env σ (.Name x pos) Q := fun O Hd s I =>
  wpAny_Name (I.load hx hn fun v r => ⟨Kp.refl _, d, r, q⟩) hd

theorem WE_global {mg mb : Str → Option Value} (G : Base B mg mb) {x : Str} {pos : Pos} {v : Value} {d : D} {Q : D → Prop} (hx : env.kindOf x = some .globalImplicit) (hv : mg x = some v)
    (r : ∀ h X, Rep h X d v) (q : Q d) (hd : (x == ("__debug__" : Str)) = false := by decide) : WE prog w B A env σ (.Name x pos) Q := fun O Hd s I => by
  refine Name_function_global I.kind hx ?_ hd
  refine loadGlobal_global (mg := mg) ?_ hv ⟨Kp.refl _, d, r _ _, q⟩
  rw [I.glob]; exact G.g.keeps fun b o e => (I.base b o e).1

theorem load_builtin {mg mb : Str → Option Value} (G : Base B mg mb) {O Hd : List Addr} {s : Shared} (I : Inv B O Hd env σ s) {x : Str} {pos : Pos} {v : Value} {Q : Value → Shared → Prop} {E : Value → Shared → Prop} {M : Model}
    (hx : env.kindOf x = some .globalImplicit) (hm : mg x = none) (hb : bootBuiltins x = some v) (h : Q v s) (hn : x ≠ "__name__") (hd : (x == ("__debug__" : Str)) = false) : wpAny M A (eval (.Name x pos) env) Q E s := by
  refine Name_function_global I.kind hx ?_ hd
  refine loadGlobal_builtin (mg := mg) (mb := mb) ?_ hm ?_ ((G.builtins x hn).trans hb) h
  · rw [I.glob]; exact G.g.keeps fun b o e => (I.base b o e).1
  · rw [I.blt]; exact G.b.keeps fun b o e => (I.base b o e).1
theorem load_global {mg mb : Str → Option Value} (G : Base B mg mb) {O Hd : List Addr} {s : Shared} (I : Inv B O Hd env σ s) {x : Str} {pos : Pos} {v : Value} {Q : Value → Shared → Prop} {E : Value → Shared → Prop} {M : Model}
    (hx : env.kindOf x = some .globalImplicit) (hm : mg x = some v) (h : Q v s) (hd : (x == ("__debug__" : Str)) = false) : wpAny M A (eval (.Name x pos) env) Q E s := by
  refine Name_function_global I.kind hx ?_ hd
  refine loadGlobal_global (mg := mg) ?_ hm h
  rw [I.glob]; exact G.g.keeps fun b o e => (I.base b o e).1

theorem WE_binop {l r : Expr} {op : Operator} {pos : Pos} {Q : D → Prop} (h : WE prog w B A env σ l (fun a => WE prog w B A env σ r (fun b => BO prog w A op a b Q))) : WE prog w B A env σ (.BinOp l op r pos) Q := fun O Hd s I => by
  refine wpAny_BinOp (wpAny_mono (h O Hd s I) (fun va s₁ ⟨k₁, a, ra, h₁⟩ => ?_) fun _ _ f => f.elim)
  refine wpAny_mono (h₁ O Hd s₁ (I.keeps k₁)) (fun vb s₂ ⟨k₂, b, rb, h₂⟩ => ?_) fun _ _ f => f.elim
  refine wpAny_mono (h₂ _ s₂ va vb (I.keeps (k₁.trans k₂)).lives (ra.keeps k₂.get) rb) (fun v s' ⟨k₃, d, rd, q⟩ => ⟨(k₁.trans k₂).trans k₃, d, rd, q⟩) fun _ _ f => f

theorem WE_unary {x : Expr} {op : UnaryOp} {pos : Pos} {Q : D → Prop} (h : WE prog w B A env σ x (fun a => UO prog w A op a Q)) : WE prog w B A env σ (.UnaryOp op x pos) Q := fun O Hd s I => by
  refine UnaryOp_ (wpAny_mono (h O Hd s I) (fun va s₁ ⟨k₁, a, ra, h₁⟩ => ?_) fun _ _ f => f.elim)
  exact wpAny_mono (h₁ _ s₁ va (I.keeps k₁).lives ra) (fun v s' ⟨k₃, d, rd, q⟩ => ⟨k₁.trans k₃, d, rd, q⟩) fun _ _ f => f

theorem WT_compare {l r : Expr} {op : CmpOp} {pos : Pos} {Q : Bool → Prop} (h : WE prog w B A env σ l (fun a => WE prog w B A env σ r (fun b => CO prog w B A op a b Q)))
    (hm : behindInMarks op r = false := by with_unfolding_all rfl) : WT prog w B A env σ (.Compare l [op] [r] pos) Q := fun O Hd s I => by
  refine wpAny_isTrue_Compare1 (wpAny_mono (h O Hd s I) (fun va s₁ ⟨k₁, a, ra, h₁⟩ => ?_) fun _ _ f => f.elim) hm
  refine wpAny_mono (h₁ O Hd s₁ (I.keeps k₁)) (fun vb s₂ ⟨k₂, b, rb, h₂⟩ => ?_) fun _ _ f => f.elim
  refine wpAny_mono (h₂ _ s₂ va vb (I.keeps (k₁.trans k₂)).grd (ra.keeps k₂.get) rb) (fun v s' ⟨k₃, c, e, q⟩ => ?_) fun _ _ f => f
  subst e; exact wpAny_truthy_bool ⟨(k₁.trans k₂).trans k₃, q⟩

theorem WE_ifexp {t a b : Expr} {pos : Pos} {Q : D → Prop} (h : WT prog w B A env σ t (fun c => if c = true then WE prog w B A env σ a Q else WE prog w B A env σ b Q)) : WE prog w B A env σ (.IfExp t a b pos) Q := fun O Hd s I => by
  refine IfExp_ (wpAny_mono (h O Hd s I) (fun c s₁ ⟨k₁, h₁⟩ => ?_) fun _ _ f => f)
  cases c with
  | true =>
    simp only [if_true] at h₁ ⊢
    exact wpAny_mono (h₁ O Hd s₁ (I.keeps k₁)) (fun v s' ⟨k, d, r, q⟩ => ⟨k₁.trans k, d, r, q⟩) fun _ _ f => f
  | false =>
    simp only [Bool.false_eq_true, if_false] at h₁ ⊢
    exact wpAny_mono (h₁ O Hd s₁ (I.keeps k₁)) (fun v s' ⟨k, d, r, q⟩ => ⟨k₁.trans k, d, r, q⟩) fun _ _ f => f

end
end Mine

end
section
open PySem PySem.W PySem.Calls PyProof.Rows
namespace Mine

section
variable {prog : Program} {w : World} {B : Shared} {A : Around} {env : Env} {σ : Store}

-- ints
theorem BO_add_ii {a b : Int} {Q : D → Prop} (q : Q (.int (a + b))) : BO prog w A .Add (.int a) (.int b) Q := fun X s va vb l ra rb => by
  obtain ⟨t, rfl⟩ := ra.int_inv; obtain ⟨u, rfl⟩ := rb.int_inv
  exact PyProof.Rows.add_int ⟨Kp.tok _ _, _, rep_int, q⟩
theorem BO_sub_ii {a b : Int} {Q : D → Prop} (q : Q (.int (a - b))) : BO prog w A .Sub (.int a) (.int b) Q := fun X s va vb l ra rb => by
  obtain ⟨t, rfl⟩ := ra.int_inv; obtain ⟨u, rfl⟩ := rb.int_inv
  exact PyProof.Rows.sub_int ⟨Kp.tok _ _, _, rep_int, q⟩
theorem BO_mul_ii {a b : Int} {Q : D → Prop} (hm : IntMulOk a b) (q : Q (.int (a * b))) : BO prog w A .Mult (.int a) (.int b) Q := fun X s va vb l ra rb => by
  obtain ⟨t, rfl⟩ := ra.int_inv; obtain ⟨u, rfl⟩ := rb.int_inv
  exact PyProof.Rows.mul_int ⟨Kp.tok _ _, _, rep_int, q⟩ hm
theorem BO_mod_ii {a b : Int} {Q : D → Prop} (hb : b ≠ 0) (q : Q (.int (a.fmod b))) : BO prog w A .Mod (.int a) (.int b) Q := fun X s va vb l ra rb => by
  obtain ⟨t, rfl⟩ := ra.int_inv; obtain ⟨u, rfl⟩ := rb.int_inv
  exact PyProof.Rows.mod_int hb ⟨Kp.tok _ _, _, rep_int, q⟩
theorem BO_floordiv_ii {a b : Int} {Q : D → Prop} (hb : b ≠ 0) (hp : b.natAbs.log2 < 9000) (q : Q (.int (a.fdiv b))) : BO prog w A .FloorDiv (.int a) (.int b) Q := fun X s va vb l ra rb => by
  obtain ⟨t, rfl⟩ := ra.int_inv; obtain ⟨u, rfl⟩ := rb.int_inv
  exact AutoIntOps.floordiv_1 (by simpa using hb) (by rw [PyProof.noPylong_of_log2 hp]; simp) ⟨Kp.tok _ _, _, rep_int, q⟩
theorem BO_pow_ii {a b : Int} {Q : D → Prop} (hb : 0 ≤ b) (hsz : (Builtin.Int.intBits a : Int) * b ≤ 2 ^ 27) (q : Q (.int (a ^ b.toNat))) : BO prog w A .Pow (.int a) (.int b) Q := fun X s va vb l ra rb => by
  obtain ⟨t, rfl⟩ := ra.int_inv; obtain ⟨u, rfl⟩ := rb.int_inv
  exact PyProof.Rows.pow_int hb hsz ⟨Kp.tok _ _, _, rep_int, q⟩
/-- true division of ints -/
def divI (a b : Int) : UInt64 := Float64.ofFrac (decide (a < 0) != decide (b < 0)) a.natAbs b.natAbs
theorem BO_div_ii {a b : Int} {Q : D → Prop} (hA : A.handled = none) (hfit : a.natAbs < 2 ^ 1023) (hb : b ≠ 0) (q : Q (.flt (divI a b))) : BO prog w A .Div (.int a) (.int b) Q := fun X s va vb l ra rb => by
  obtain ⟨t, rfl⟩ := ra.int_inv; obtain ⟨u, rfl⟩ := rb.int_inv
  exact PySem.Flt.div_ii_fits hA hfit (fun h => absurd h hb) (fun _ _ => ⟨Kp.tok _ _, _, rep_flt l.pos, q⟩)
-- floats
theorem BO_add_ff {a b : UInt64} {Q : D → Prop} (q : Q (.flt (Float64.add a b))) : BO prog w A .Add (.flt a) (.flt b) Q := fun X s va vb l ra rb => by
  obtain ⟨t, rfl, ht⟩ := ra.flt_inv; obtain ⟨u, rfl, hu⟩ := rb.flt_inv
  exact PyProof.Rows.add_float ⟨Kp.tok _ _, _, rep_flt l.pos, q⟩
theorem BO_sub_ff {a b : UInt64} {Q : D → Prop} (q : Q (.flt (Float64.sub a b))) : BO prog w A .Sub (.flt a) (.flt b) Q := fun X s va vb l ra rb => by
  obtain ⟨t, rfl, ht⟩ := ra.flt_inv; obtain ⟨u, rfl, hu⟩ := rb.flt_inv
  exact PyProof.Rows.sub_float ⟨Kp.tok _ _, _, rep_flt l.pos, q⟩
theorem BO_mul_ff {a b : UInt64} {Q : D → Prop} (q : Q (.flt (Float64.mul a b))) : BO prog w A .Mult (.flt a) (.flt b) Q := fun X s va vb l ra rb => by
  obtain ⟨t, rfl, ht⟩ := ra.flt_inv; obtain ⟨u, rfl, hu⟩ := rb.flt_inv
  exact PyProof.Rows.mul_float ⟨Kp.tok _ _, _, rep_flt l.pos, q⟩
theorem BO_mod_ff {a b : UInt64} {Q : D → Prop} (hb : Float64.isZero b = false) (q : Q (.flt (Float64.divmod a b).2)) : BO prog w A .Mod (.flt a) (.flt b) Q := fun X s va vb l ra rb => by
  obtain ⟨t, rfl, ht⟩ := ra.flt_inv; obtain ⟨u, rfl, hu⟩ := rb.flt_inv
  exact AutoFloatOps.mod_1 (by simp [hb]) ⟨Kp.tok _ _, _, rep_flt l.pos, q⟩
theorem BO_sub_fi {a : UInt64} {b : Int} {Q : D → Prop} (hfit : b.natAbs < 2 ^ 1023) (q : Q (.flt (Float64.sub a (Float64.ofInt b)))) : BO prog w A .Sub (.flt a) (.int b) Q := fun X s va vb l ra rb => by
  obtain ⟨t, rfl, ht⟩ := ra.flt_inv; obtain ⟨u, rfl⟩ := rb.int_inv
  exact PyProof.Rows.sub_fi_fits hfit ⟨Kp.tok _ _, _, rep_flt l.pos, q⟩
theorem BO_sub_if {a : Int} {b : UInt64} {Q : D → Prop} (hfit : a.natAbs < 2 ^ 1023) (q : Q (.flt (Float64.sub (Float64.ofInt a) b))) : BO prog w A .Sub (.int a) (.flt b) Q := fun X s va vb l ra rb => by
  obtain ⟨t, rfl⟩ := ra.int_inv; obtain ⟨u, rfl, hu⟩ := rb.flt_inv
  exact PyProof.Rows.sub_if_fits hfit ⟨Kp.tok _ _, _, rep_flt l.pos, q⟩
theorem UO_neg_i {a : Int} {Q : D → Prop} (q : Q (.int (-a))) : UO prog w A .USub (.int a) Q := fun X s va l ra => by
  obtain ⟨t, rfl⟩ := ra.int_inv
  exact PyProof.Rows.neg_int ⟨Kp.tok _ _, _, rep_int, q⟩

-- comparisons
theorem CO_eq_ii {a b : Int} {Q : Bool → Prop} (q : Q (a == b)) : CO prog w B A .Eq (.int a) (.int b) Q := fun X s va vb l ra rb => by
  obtain ⟨t, rfl⟩ := ra.int_inv; obtain ⟨u, rfl⟩ := rb.int_inv
  exact PyProof.Rows.eq_int ⟨Kp.refl _, _, rfl, q⟩
theorem CO_lt_ff {a b : UInt64} {Q : Bool → Prop} (q : Q (Float64.cmp a b == some .lt)) : CO prog w B A .Lt (.flt a) (.flt b) Q := fun X s va vb l ra rb => by
  obtain ⟨t, rfl, ht⟩ := ra.flt_inv; obtain ⟨u, rfl, hu⟩ := rb.flt_inv
  exact AutoFloatOps.lt_0 ⟨Kp.refl _, _, rfl, q⟩
theorem CO_eq_ff {a b : UInt64} {Q : Bool → Prop} (q : Q (Float64.cmp a b == some .eq)) : CO prog w B A .Eq (.flt a) (.flt b) Q := fun X s va vb l ra rb => by
  obtain ⟨t, rfl, ht⟩ := ra.flt_inv; obtain ⟨u, rfl, hu⟩ := rb.flt_inv
  exact AutoFloatOps.eq_0 ⟨Kp.refl _, _, rfl, q⟩
theorem rep_new_list {s : Shared} {X : List Addr} {ds : List D} {vs : List Value} (l : Live X s) (r : Reps s.heap X ds vs) :
    Rep (s.heap.push { cls := .type "list", data := .seq vs.toArray }) X (.lst ds) (.ref s.heap.objs.size) :=
  rep_lst l.fresh ⟨0, Heap.get?_push_size _ rfl⟩ (r.keeps fun _ _ e => Heap.get?_push_of_some _ e)
theorem rep_new_tuple {s : Shared} {X : List Addr} {ds : List D} {vs : List Value} (l : Live X s) (r : Reps s.heap X ds vs) :
    Rep (s.heap.push { cls := .type "tuple", data := .seq vs.toArray }) X (.tup ds) (.ref s.heap.objs.size) :=
  rep_tup l.fresh ⟨0, Heap.get?_push_size _ rfl⟩ (r.keeps fun _ _ e => Heap.get?_push_of_some _ e)

theorem BO_add_ll {ds es : List D} {Q : D → Prop} (hsz : ds.length + es.length ≤ 2 ^ 24) (q : Q (.lst (ds ++ es))) : BO prog w A .Add (.lst ds) (.lst es) Q := fun X s va vb l ra rb => by
  obtain ⟨a, vs, rfl, ha, hl, hr⟩ := ra.lst_inv; obtain ⟨b, ws, rfl, hb, hl', hr'⟩ := rb.lst_inv
  obtain ⟨n, ho⟩ := hl; obtain ⟨n', ho'⟩ := hl'
  refine P.add_list ho ho' ?_ (by simp [hr.length, hr'.length, sizeLine]; exact hsz)
  have e : vs.toArray ++ ws.toArray = (vs ++ ws).toArray := by simp
  rw [e]
  exact ⟨Kp.push _ _, _, rep_new_list l (hr.append hr'), q⟩
end
end Mine

end
section
open PySem PySem.W PySem.Calls PyProof.Rows
namespace Mine

section
variable {prog : Program} {w : World} {B : Shared} {A : Around} {env : Env} {σ : Store}

/-- expressions in order -/
def WEs (prog : Program) (w : World) (B : Shared) (A : Around) (env : Env) (σ : Store) : List Expr → (List D → Prop) → Prop
  | [], Q => Q []
  | e :: rest, Q => WE prog w B A env σ e (fun d => WEs prog w B A env σ rest (fun ds => Q (d :: ds)))

def noStar : List Expr → Bool
  | [] => true
  | .Starred _ _ :: _ => false
  | _ :: rest => noStar rest

theorem starEach_plain {e : Expr} {rest : List Expr} (h : noStar (e :: rest) = true) : starEach (e :: rest) env = (false, eval e env) :: starEach rest env ∧ noStar rest = true := by
  cases e <;> first | (simp [noStar] at h; done) | exact ⟨rfl, by simpa [noStar] using h⟩

theorem WEs.wp {O Hd : List Addr} {pos : Pos} : ∀ (es : List Expr) (Q : List D → Prop) (s : Shared), noStar es = true → WEs prog w B A env σ es Q → Inv B O Hd env σ s →
    wpAny (model prog w) A (spliced (backTo pos (starEach es env))) (fun vs s' => Kp s s' ∧ ∃ ds, Reps s'.heap (O ++ Hd) ds vs ∧ Q ds) no s
  | [], Q, s, _, h, I => spliced_nil ⟨Kp.refl _, [], rfl, h⟩
  | e :: rest, Q, s, hn, h, I => by
    obtain ⟨he, hr⟩ := starEach_plain (env := env) hn
    rw [he]
    show wpAny _ _ (spliced ((false, eval e env) :: backTo pos (starEach rest env))) _ _ s
    refine spliced_cons (wpAny_mono (h O Hd s I) (fun v s₁ ⟨k₁, d, r, h₁⟩ => ?_) fun _ _ f => f)
    refine wpAny_mono (WEs.wp rest _ s₁ hr h₁ (I.keeps k₁)) (fun vs s₂ ⟨k₂, ds, rs, q⟩ => ?_) fun _ _ f => f
    exact ⟨k₁.trans k₂, d :: ds, ⟨v, vs, rfl, r.keeps k₂.get, rs⟩, q⟩

theorem WEs.any {pos : Pos} : ∀ (es : List Expr), noStar es = true → (backTo pos (starEach es env)).any (·.1) = false
  | [], _ => rfl
  | e :: rest, hn => by
    obtain ⟨he, hr⟩ := starEach_plain (env := env) hn
    rw [he]
    show (false || (backTo pos (starEach rest env)).any (·.1)) = false
    rw [WEs.any rest hr]; rfl

theorem WE_list {es : List Expr} {pos : Pos} {Q : D → Prop} (h : WEs prog w B A env σ es (fun ds => ds.length ≤ 2 ^ 24 ∧ Q (.lst ds))) (hn : noStar es = true := by rfl) : WE prog w B A env σ (.List es pos) Q := fun O Hd s I => by
  refine List_ (wpAny_mono (WEs.wp es _ s hn h I) (fun vs s₁ ⟨k₁, ds, rs, hsz, q⟩ => ?_) fun _ _ f => f)
  exact wpAny_newObj_type ⟨k₁.trans (Kp.push _ _), _, rep_new_list (I.keeps k₁).lives rs, q⟩ (by show vs.toArray.size ≤ sizeLine; rw [List.size_toArray, rs.length]; exact hsz)
theorem WE_tuple {es : List Expr} {n : Nat} {pos : Pos} {Q : D → Prop} (h : WEs prog w B A env σ es (fun ds => ds.length ≤ 2 ^ 24 ∧ Q (.tup ds))) (hn : noStar es = true := by rfl) : WE prog w B A env σ (.Tuple es n pos) Q := fun O Hd s I => by
  refine Tuple_ (wpAny_mono (WEs.wp es _ s hn h I) (fun vs s₁ ⟨k₁, ds, rs, hsz, q⟩ => ?_) fun _ _ f => f)
  exact wpAny_newObj_type ⟨k₁.trans (Kp.push _ _), _, rep_new_tuple (I.keeps k₁).lives rs, q⟩ (by show vs.toArray.size ≤ sizeLine; rw [List.size_toArray, rs.length]; exact hsz)

/-- an item at a place -/
def IO (prog : Program) (w : World) (A : Around) (a b : D) (Q : D → Prop) : Prop :=
  ∀ X s va vb, Live X s → Rep s.heap X a va → Rep s.heap X b vb → ∃ T id, s.TypeIs va T ∧ typeLookup (.type T) "__getitem__" = pure (some (.builtin id)) ∧
    wpAny (model prog w) A (getItem va vb) (fun v s' => Kp s s' ∧ ∃ d, Rep s'.heap X d v ∧ Q d) no s

theorem WE_item {value slice : Expr} {pos : Pos} {Q : D → Prop} (h : WE prog w B A env σ value (fun a => WE prog w B A env σ slice (fun b => IO prog w A a b Q)))
    (hs : ∀ o i, subscripted slice false o i = operate [o, i] (getItem o i) := by intro _ _; with_unfolding_all rfl) : WE prog w B A env σ (.Subscript value slice pos) Q := fun O Hd s I => by
  refine Subscript_ (wpAny_mono (h O Hd s I) (fun va s₁ ⟨k₁, a, ra, h₁⟩ => ?_) fun _ _ f => f.elim)
  refine wpAny_mono (h₁ O Hd s₁ (I.keeps k₁)) (fun vb s₂ ⟨k₂, b, rb, h₂⟩ => ?_) fun _ _ f => f.elim
  obtain ⟨T, id, hT, hl, hg⟩ := h₂ _ s₂ va vb (I.keeps (k₁.trans k₂)).lives (ra.keeps k₂.get) rb
  exact tail_any hT hl (wpAny_mono hg (fun v s' ⟨k₃, d, rd, q⟩ => ⟨(k₁.trans k₂).trans k₃, d, rd, q⟩) fun _ _ f => f) (hs va vb)

theorem IO_li {ds : List D} {i : Int} {d : D} {Q : D → Prop} (h0 : 0 ≤ i) (hi : ds[i.toNat]? = some d) (hfit : i < 2 ^ 63) (q : Q d) : IO prog w A (.lst ds) (.int i) Q := fun X s va vb l ra rb => by
  obtain ⟨a, vs, rfl, ha, hl, hr⟩ := ra.lst_inv; obtain ⟨u, rfl⟩ := rb.int_inv
  obtain ⟨v, hv, rv⟩ := hr.at hi
  exact ⟨"list", _, hl.isList.typeIs, list_getitem_lookup, wpAny_getItem_list hl.isList h0 hfit (by simpa using hv) ⟨Kp.refl _, d, rv, q⟩⟩
/-- a bound of a cut -/
def WP (prog : Program) (w : World) (B : Shared) (A : Around) (env : Env) (σ : Store) : Option Expr → (Option Int → Prop) → Prop
  | none, Q => Q none
  | some e, Q => WE prog w B A env σ e (fun d => ∃ i, d = .int i ∧ Q (some i))

theorem WP.wp {O Hd : List Addr} {s : Shared} {e : Option Expr} {Q : Option Int → Prop} (h : WP prog w B A env σ e Q) (I : Inv B O Hd env σ s) :
    wpAny (model prog w) A (valueOrNone (evalOpt e env)) (fun v s' => Kp s s' ∧ ∃ i, IsPart v i ∧ Q i) no s := by
  cases e with
  | none => exact wpAny_pure ⟨Kp.refl _, none, .none, h⟩
  | some e =>
    refine wpAny_mono (h O Hd s I) (fun v s' ⟨k, d, r, i, e, q⟩ => ?_) fun _ _ f => f
    subst e
    obtain ⟨t, rfl⟩ := r.int_inv
    exact ⟨k, some i, .int _ _, q⟩

def cut {α : Type} (xs : List α) (lo hi : Option Int) : List α :=
  (xs.drop (lo.elim 0 (clipAt xs.length))).take (hi.elim xs.length (clipAt xs.length) - lo.elim 0 (clipAt xs.length))

theorem WE_cut {value : Expr} {lo hi : Option Expr} {p pos : Pos} {Q : D → Prop}
    (h : WE prog w B A env σ value (fun a => WP prog w B A env σ lo (fun l => WP prog w B A env σ hi (fun u => ∃ ds, a = .lst ds ∧ ds.length ≤ 2 ^ 24 ∧ Q (.lst (cut ds l u)))))) :
    WE prog w B A env σ (.Subscript value (.Slice lo hi none p) pos) Q := fun O Hd s I => by
  refine Subscript_ (wpAny_mono (h O Hd s I) (fun va s₁ ⟨k₁, a, ra, h₁⟩ => ?_) fun _ _ f => f.elim)
  have I₁ := I.keeps k₁
  show wpAny _ _ (do
    let l ← valueOrNone (evalOpt lo env)
    let u ← holding [l] (valueOrNone (evalOpt hi env))
    let s ← holding [l, u] (valueOrNone (evalOpt none env))
    newFields "slice" [l, u, s]) _ _ s₁
  refine wpAny_bind (wpAny_mono (WP.wp h₁ I₁) (fun vl s₂ ⟨k₂, li, pl, h₂⟩ => ?_) fun _ _ f => f.elim)
  have I₂ := I₁.keeps k₂
  refine wpAny_bind (wpAny_holding (wpAny_mono (WP.wp h₂ I₂) (fun vu s₃ ⟨k₃, ui, pu, ds, hd, hsz, q⟩ => ?_) fun _ _ f => f.elim))
  have I₃ := I₂.keeps k₃
  subst hd
  refine wpAny_bind (wpAny_holding (wpAny_pure ?_))
  refine wpAny_newObj_type (T := "slice") (data := .fields #[vl, vu, .none]) ?_ (by simp [sizeOk, sizeLine])
  obtain ⟨a, vs, rfl, ha, hl, hr⟩ := (ra.keeps (k₂.trans k₃).get).lst_inv
  have hl' := hl.at (h' := s₃.heap.push { cls := .type "slice", data := .fields #[vl, vu, .none] }) fun o e => Heap.get?_push_of_some _ e
  refine tail_any (T := "list") (ops := [.ref s₃.heap.objs.size, .ref a]) (Heap.IsList.typeIs (s := { s₃ with heap := s₃.heap.push { cls := .type "slice", data := .fields #[vl, vu, .none] } }) hl'.isList) list_getitem_lookup
    (wpAny_getItem_list_slice (st := none) hl'.isList (Heap.IsSliceOf.new ..) pl pu .none (by simp) ?_ (by simp [sizeLine, hr.length]; exact hsz)) (by with_unfolding_all rfl)
  have L4 : Live (O ++ Hd) { s₃ with heap := s₃.heap.push { cls := .type "slice", data := .fields #[vl, vu, .none] } } := I₃.lives.keeps (Kp.push _ _)
  have e : slicePick vs.toArray li ui none = (cut vs li ui).toArray := by rw [slicePick_plain]; simp [cut]
  rw [e]
  have r' : Reps s₃.heap (O ++ Hd) (cut ds li ui) (cut vs li ui) := by
    unfold cut; rw [hr.length]; exact (hr.drop _).take _
  refine ⟨((k₁.trans k₂).trans k₃).trans ((Kp.push _ _).trans (Kp.push _ _)), _, ?_, q⟩
  exact rep_new_list (s := { s₃ with heap := s₃.heap.push { cls := .type "slice", data := .fields #[vl, vu, .none] } }) L4 (r'.keeps fun _ _ e => Heap.get?_push_of_some _ e)

/-- a call of a value with plain arguments -/
def WC (prog : Program) (w : World) (B : Shared) (A : Around) (f : Value) (args : List D) (Q : D → Prop) : Prop :=
  ∀ X s vals, Grd B X s → Reps s.heap X args vals → wpAny (model prog w) A (call f vals) (fun v s' => Kp s s' ∧ ∃ d, Rep s'.heap X d v ∧ Q d) no s

theorem WC.mono {f : Value} {args : List D} {Q Q' : D → Prop} (h : WC prog w B A f args Q) (hq : ∀ d, Q d → Q' d) : WC prog w B A f args Q' := fun X s vals g r =>
  wpAny_mono (h X s vals g r) (fun v s' ⟨k, d, r, q⟩ => ⟨k, d, r, hq d q⟩) fun _ _ f => f

theorem WE_call_builtin {mg mb : Str → Option Value} (G : Base B mg mb) {x : Str} {p pos : Pos} {id : String} {e : Expr} {args : List Expr} {Q : D → Prop}
    (hx : env.kindOf x = some .globalImplicit) (hm : mg x = none) (hb : bootBuiltins x = some (.builtin id))
    (h : WEs prog w B A env σ (e :: args) (fun ds => WC prog w B A (.builtin id) ds Q))
    (hn : x ≠ "__name__" := by decide) (hd : (x == ("__debug__" : Str)) = false := by decide) (hs : noStar (e :: args) = true := by rfl) : WE prog w B A env σ (.Call (.Name x p) (e :: args) [] pos) Q := fun O Hd s I => by
  refine Call_Name rfl (load_builtin G I hx hm hb ?_ hn hd)
  refine callWith_builtin1 (wpAny_mono (WEs.wp (e :: args) _ s hs h I) (fun vs s₁ ⟨k₁, ds, rs, h₁⟩ => ?_) fun _ _ f => f.elim) (starEach_plain hs).1 (WEs.any args (starEach_plain (env := env) hs).2)
  exact wpAny_mono (h₁ _ s₁ vs (I.keeps k₁).grd rs) (fun v s' ⟨k, d, r, q⟩ => ⟨k₁.trans k, d, r, q⟩) fun _ _ f => f

theorem WE_call_type {mg mb : Str → Option Value} (G : Base B mg mb) {x : Str} {p pos : Pos} {T : String} {e : Expr} {args : List Expr} {Q : D → Prop}
    (hx : env.kindOf x = some .globalImplicit) (hm : mg x = none) (hb : bootBuiltins x = some (.type T))
    (h : WEs prog w B A env σ (e :: args) (fun ds => WC prog w B A (.type T) ds Q))
    (hn : x ≠ "__name__" := by decide) (hd : (x == ("__debug__" : Str)) = false := by decide) (hs : noStar (e :: args) = true := by rfl) : WE prog w B A env σ (.Call (.Name x p) (e :: args) [] pos) Q := fun O Hd s I => by
  refine Call_Name rfl (load_builtin G I hx hm hb ?_ hn hd)
  refine callWith_type1 (wpAny_mono (WEs.wp (e :: args) _ s hs h I) (fun vs s₁ ⟨k₁, ds, rs, h₁⟩ => ?_) fun _ _ f => f.elim) (starEach_plain hs).1 (WEs.any args (starEach_plain (env := env) hs).2)
  exact wpAny_mono (h₁ _ s₁ vs (I.keeps k₁).grd rs) (fun v s' ⟨k, d, r, q⟩ => ⟨k₁.trans k, d, r, q⟩) fun _ _ f => f

/-- a def of the module -/
structure FnAt (B : Shared) (mg : Str → Option Value) (x : Str) (f : Addr) (fd : FuncData) : Prop where
  at_ : mg x = some (.ref f)
  obj : ∃ o, B.heap.get? f = some o ∧ o.data = .func fd
  code : B.heap.CodeRec fd.code fd.qualname

theorem WE_call_def {mg mb : Str → Option Value} (G : Base B mg mb) {x : Str} {p pos : Pos} {f : Addr} {fd : FuncData} (H : FnAt B mg x f fd) {e : Expr} {args : List Expr} {Q : D → Prop}
    (hx : env.kindOf x = some .globalImplicit) (h : WEs prog w B A env σ (e :: args) (fun ds => WC prog w B A (.ref f) ds Q))
    (hd : (x == ("__debug__" : Str)) = false := by decide) (hs : noStar (e :: args) = true := by rfl) : WE prog w B A env σ (.Call (.Name x p) (e :: args) [] pos) Q := fun O Hd s I => by
  refine Call_Name rfl (load_global G I hx H.at_ ?_ hd)
  obtain ⟨o, ho, hdat⟩ := H.obj
  refine callWith_def hdat (wpAny_mono (WEs.wp (e :: args) _ s hs h I) (fun vs s₁ ⟨k₁, ds, rs, h₁⟩ => ?_) fun _ _ f => f.elim) (starEach_plain hs).1
  exact ⟨((I.keeps k₁).base _ _ ho).1, wpAny_mono (h₁ _ s₁ vs (I.keeps k₁).grd rs) (fun v s' ⟨k, d, r, q⟩ => ⟨k₁.trans k, d, r, q⟩) fun _ _ f => f⟩

end
end Mine

end
section
open PySem PySem.W PySem.Calls PyProof.Rows
namespace Mine

/-- an iterator at I that will hand out ds; it came behind s₀ -/
structure It (prog : Program) (w : World) (A : Around) (s₀ : Shared) (X : List Addr) (I : Addr) (ds : List D) (s : Shared) : Prop where
  walk : ∃ fp P St, Walks prog w A I fp [I] ds.length P St ∧ St 0 s.heap ∧ (∀ b, b ∈ fp → b ∉ X) ∧ (∀ b, b ∈ fp → ∃ o, s.heap.get? b = some o) ∧ (∀ i h, St i h → ∃ o, h.get? I = some o) ∧
    (∀ i v d, P i v → ds[i]? = some d → Rep s.heap (I :: X) d v) ∧
    (∀ i (s : Shared) v target (Q : Unit → Shared → Prop) (E : Value → Shared → Prop), St i s.heap → Q () s → wpAny (model prog w) A (letOwnedTupleGo target (.ref I) v) Q E s)
  fresh : s₀.heap.get? I = none

section
variable {prog : Program} {w : World} {B : Shared} {A : Around} {env : Env} {σ : Store}

theorem letOwned_ref {s : Shared} {I : Addr} {cls : String} {l v : Value} {vs : List Value} {target : Expr} {Q : Unit → Shared → Prop} {E : Value → Shared → Prop}
    (ho : ∃ o, s.heap.get? I = some o ∧ o.cls = .type cls ∧ o.data = .fields (l :: vs).toArray) (hl : ∀ a : Addr, l ≠ rawInt a ∨ ["enumerate", "zip", "dict_itemiterator", "dict_reverseitemiterator", "odict_iterator", "itertools.zip_longest", "itertools.pairwise"].contains cls = false) (h : Q () s) : wpAny (model prog w) A (letOwnedTupleGo target (.ref I) v) Q E s := by
  unfold letOwnedTupleGo
  split
  all_goals first
    | exact wpAny_pure h
    | skip
  all_goals
    cases v <;> try exact wpAny_pure h
  all_goals
    rename_i a
    obtain ⟨o, ho, hc, hd⟩ := ho
    refine wpAny_bind (wpAny_load ho ?_)
    rw [hc, hd]
    show wpAny _ A (if (["enumerate", "zip", "dict_itemiterator", "dict_reverseitemiterator", "odict_iterator", "itertools.zip_longest", "itertools.pairwise"].contains cls &&
        ((l :: vs).toArray : Array Value)[0]? == some (rawInt a)) = true then _ else _) Q E s
    rw [if_neg]
    · exact wpAny_pure h
    · intro hh
      rw [Bool.and_eq_true] at hh
      rcases hl a with h1 | h1
      · have := hh.2
        simp at this
        exact h1 this
      · rw [h1] at hh; exact absurd hh.1 (by decide)

theorem iter_lst {X : List Addr} {s : Shared} {ds : List D} {v : Value} (hA : A.handled = none) (l : Live X s) (r : Rep s.heap X (.lst ds) v) :
    wpAny (model prog w) A (pyIter v) (fun it s' => Kp s s' ∧ ∃ I, it = .ref I ∧ It prog w A s X I ds s') no s := by
  obtain ⟨a, vs, rfl, ha, hl, hr⟩ := r.lst_inv
  have hlen := hr.length
  obtain ⟨n, ho⟩ := id hl
  have hne : a ≠ s.heap.objs.size := Nat.ne_of_lt (Heap.lt_size ho)
  refine wpAny_pyIter_list hl.isList ?_
  have W := Walks.list (prog := prog) (w := w) hA s.heap.objs.size a hne vs.toArray
  rw [show vs.toArray.size = ds.length by rw [List.size_toArray]; exact hlen] at W
  refine ⟨Kp.push _ _, _, rfl, ⟨[s.heap.objs.size, a], (fun i v => vs.toArray[i]? = some v), (fun i h => h.IsListIter s.heap.objs.size a i ∧ h.IsList a vs.toArray), W,
    ⟨⟨_, Heap.get?_push_size _ rfl, rfl, rfl⟩, hl.isList.push _⟩, ?_, ?_, ?_, ?_, ?_⟩, ?_⟩
  · intro b hb
    simp at hb
    rcases hb with rfl | rfl
    · exact l.fresh
    · exact ha
  · intro b hb
    simp at hb
    rcases hb with rfl | rfl
    · exact ⟨_, Heap.get?_push_size _ rfl⟩
    · exact ⟨_, Heap.get?_push_of_some _ ho⟩
  · rintro i h ⟨⟨o, h1, _⟩, _⟩
    exact ⟨o, h1⟩
  · intro i v d hv hd
    obtain ⟨d', h1, h2⟩ := hr.get (i := i) (v := v) (by simpa using hv)
    rw [h1] at hd; cases hd
    exact h2.mono fun b o hb e => ⟨Heap.get?_push_of_some _ e, fun hm => by
      rcases List.mem_cons.mp hm with q | q
      · subst q; exact absurd (Heap.lt_size e) (Nat.lt_irrefl _)
      · exact hb q⟩
  · rintro i s' v target Q E ⟨⟨o, h1, h2, h3⟩, _⟩ hq
    exact letOwned_ref (cls := "list_iterator") ⟨o, h1, h2, h3⟩ (fun _ => .inr (by decide)) hq
  · cases e : s.heap.get? s.heap.objs.size with
    | none => rfl
    | some o => exact absurd (Heap.lt_size e) (Nat.lt_irrefl _)

/-- the items of a loop's source -/
def WI (prog : Program) (w : World) (B : Shared) (A : Around) (env : Env) (σ : Store) (e : Expr) (Q : List D → Prop) : Prop :=
  ∀ O Hd s, Inv B O Hd env σ s → wpAny (model prog w) A (eval e env) (fun x s₁ => wpAny (model prog w) A (pyIter x) (fun it s₂ => Kp s s₂ ∧ ∃ I ds, it = .ref I ∧ It prog w A s (O ++ Hd) I ds s₂ ∧ Q ds) no s₁) no s

theorem It.older {X : List Addr} {I : Addr} {ds : List D} {s₀ s₁ s : Shared} (t : It prog w A s₁ X I ds s) (k : Kp s₀ s₁) : It prog w A s₀ X I ds s := by
  refine ⟨t.walk, ?_⟩
  cases e : s₀.heap.get? I with
  | none => rfl
  | some o => have := k.get _ _ e; rw [t.fresh] at this; cases this

theorem WI_lst {e : Expr} {Q : List D → Prop} (hA : A.handled = none) (h : WE prog w B A env σ e (fun d => ∃ ds, d = .lst ds ∧ Q ds)) : WI prog w B A env σ e Q := fun O Hd s I => by
  refine wpAny_mono (h O Hd s I) (fun v s₁ ⟨k₁, d, r, ds, e, q⟩ => ?_) fun _ _ f => f.elim
  subst e
  exact wpAny_mono (iter_lst hA (I.keeps k₁).lives r) (fun it s₂ ⟨k₂, I', e, t⟩ => ⟨k₁.trans k₂, I', ds, e, t.older k₁, q⟩) fun _ _ f => f
/-- what a statement leaves -/
inductive Out where
  | next | brk | cont
  | ret (d : D)

def FlowIs (h : Heap) (X : List Addr) : Out → Flow → Prop
  | .next, f => f = .next
  | .brk, f => f = .brk
  | .cont, f => f = .cont
  | .ret d, f => ∃ v, f = .ret v ∧ Rep h X d v

/-- what is not the frame's own stays -/
structure Ext (O : List Addr) (s : Shared) (O' : List Addr) (s' : Shared) : Prop where
  same : ∃ h tk, s' = { s with heap := h, toks := tk } ∧ s.toks ≤ tk
  keep : ∀ a o, a ∉ O → s.heap.get? a = some o → s'.heap.get? a = some o
  own : ∀ a, a ∈ O' → a ∈ O ∨ s.heap.get? a = none

theorem Ext.refl (O : List Addr) (s : Shared) : Ext O s O s := ⟨⟨s.heap, s.toks, rfl, Nat.le_refl _⟩, fun _ _ _ e => e, fun _ h => .inl h⟩
theorem Ext.of {O : List Addr} {s s' : Shared} (k : Kp s s') : Ext O s O s' := ⟨k.same, fun _ _ _ e => k.get _ _ e, fun _ h => .inl h⟩
theorem Ext.trans {O O' O'' : List Addr} {s s' s'' : Shared} (x : Ext O s O' s') (y : Ext O' s' O'' s'') : Ext O s O'' s'' := by
  refine ⟨?_, fun a o ha e => ?_, fun a ha => ?_⟩
  · obtain ⟨h, tk, rfl, ht⟩ := x.same
    obtain ⟨h', tk', rfl, ht'⟩ := y.same
    exact ⟨h', tk', rfl, Nat.le_trans ht ht'⟩
  · refine y.keep a o (fun h => ?_) (x.keep a o ha e)
    rcases x.own a h with h1 | h1
    · exact ha h1
    · rw [h1] at e; cases e
  · rcases y.own a ha with h1 | h1
    · exact x.own a h1
    · by_cases ha' : a ∈ O
      · exact .inl ha'
      · right
        cases e : s.heap.get? a with
        | none => rfl
        | some o => have := x.keep a o ha' e; rw [h1] at this; cases this

def WS (prog : Program) (w : World) (B : Shared) (A : Around) (env : Env) (σ : Store) (b : List Stmt) (Q : Out → Store → Prop) : Prop :=
  ∀ O Hd s, Inv B O Hd env σ s → wpAny (model prog w) A (execs b env) (fun f s' => ∃ O' o σ', Ext O s O' s' ∧ Inv B O' Hd env σ' s' ∧ FlowIs s'.heap (O' ++ Hd) o f ∧ Q o σ') no s
def WX (prog : Program) (w : World) (B : Shared) (A : Around) (env : Env) (σ : Store) (b : Stmt) (Q : Out → Store → Prop) : Prop :=
  ∀ O Hd s, Inv B O Hd env σ s → wpAny (model prog w) A (exec b env) (fun f s' => ∃ O' o σ', Ext O s O' s' ∧ Inv B O' Hd env σ' s' ∧ FlowIs s'.heap (O' ++ Hd) o f ∧ Q o σ') no s

theorem WS.mono {b : List Stmt} {Q Q' : Out → Store → Prop} (h : WS prog w B A env σ b Q) (hq : ∀ o σ', Q o σ' → Q' o σ') : WS prog w B A env σ b Q' := fun O Hd s I =>
  wpAny_mono (h O Hd s I) (fun v s' ⟨O', o, σ', x, i, f, q⟩ => ⟨O', o, σ', x, i, f, hq _ _ q⟩) fun _ _ f => f
theorem WX.mono {b : Stmt} {Q Q' : Out → Store → Prop} (h : WX prog w B A env σ b Q) (hq : ∀ o σ', Q o σ' → Q' o σ') : WX prog w B A env σ b Q' := fun O Hd s I =>
  wpAny_mono (h O Hd s I) (fun v s' ⟨O', o, σ', x, i, f, q⟩ => ⟨O', o, σ', x, i, f, hq _ _ q⟩) fun _ _ f => f

theorem WS_nil {Q : Out → Store → Prop} (q : Q .next σ) : WS prog w B A env σ [] Q := fun O Hd s I =>
  wpAny_execs_nil ⟨O, .next, σ, Ext.refl _ _, I, rfl, q⟩
theorem WS_cons {st : Stmt} {rest : List Stmt} {Q : Out → Store → Prop}
    (h : WX prog w B A env σ st (fun o σ' => match o with | .next => WS prog w B A env σ' rest Q | .brk => Q .brk σ' | .cont => Q .cont σ' | .ret d => Q (.ret d) σ')) : WS prog w B A env σ (st :: rest) Q := fun O Hd s I => by
  refine wpAny_execs_cons (wpAny_mono (h O Hd s I) (fun f s₁ ⟨O₁, o, σ₁, x, i, fl, q⟩ => ?_) fun _ _ f => f)
  cases o with
  | next =>
    cases fl
    exact wpAny_mono (q O₁ Hd s₁ i) (fun f s' ⟨O', o, σ', x', i', fl, q⟩ => ⟨O', o, σ', x.trans x', i', fl, q⟩) fun _ _ f => f
  | brk => cases fl; exact ⟨O₁, .brk, σ₁, x, i, rfl, q⟩
  | cont => cases fl; exact ⟨O₁, .cont, σ₁, x, i, rfl, q⟩
  | ret d => obtain ⟨v, rfl, r⟩ := fl; exact ⟨O₁, .ret d, σ₁, x, i, ⟨v, rfl, r⟩, q⟩

theorem WX_return {e : Expr} {pos : Pos} {Q : Out → Store → Prop} (h : WE prog w B A env σ e (fun d => Q (.ret d) σ)) : WX prog w B A env σ (.Return (some e) pos) Q := fun O Hd s I =>
  wpAny_Return_some (wpAny_mono (h O Hd s I) (fun v s' ⟨k, d, r, q⟩ => ⟨O, .ret d, σ, Ext.of k, I.keeps k, ⟨v, rfl, r⟩, q⟩) fun _ _ f => f)

theorem WX_if {t : Expr} {a b : List Stmt} {pos : Pos} {Q : Out → Store → Prop} (h : WT prog w B A env σ t (fun c => if c = true then WS prog w B A env σ a Q else WS prog w B A env σ b Q)) :
    WX prog w B A env σ (.If t a b pos) Q := fun O Hd s I => by
  refine wpAny_If (wpAny_mono (h O Hd s I) (fun c s₁ ⟨k, q⟩ => ?_) fun _ _ f => f)
  cases c with
  | true =>
    simp only [if_true] at q ⊢
    exact wpAny_mono (q O Hd s₁ (I.keeps k)) (fun f s' ⟨O', o, σ', x', i', fl, q⟩ => ⟨O', o, σ', (Ext.of k).trans x', i', fl, q⟩) fun _ _ f => f
  | false =>
    simp only [Bool.false_eq_true, if_false] at q ⊢
    exact wpAny_mono (q O Hd s₁ (I.keeps k)) (fun f s' ⟨O', o, σ', x', i', fl, q⟩ => ⟨O', o, σ', (Ext.of k).trans x', i', fl, q⟩) fun _ _ f => f

/-- a name that the frame may store -/
def canStore (env : Env) (x : Str) : Prop := env.kindOf x = some .local ∨ (env.kindOf x = some .cell ∧ env.func.isSome = true ∧ (env.cells.lookup x).isSome = true)

theorem Inv.after {O Hd : List Addr} {s : Shared} (I : Inv B O Hd env σ s) {p : Addr} {h' : Heap} {tk : Nat} (hp : p ∈ O) (hs : Heap.SameBut p s.heap h') (hlive : ∃ o, h'.get? p = some o) (ht : s.toks ≤ tk) :
    (∀ d v, Rep s.heap (O ++ Hd) d v → Rep h' (O ++ Hd) d v) ∧ (∀ ds vs, Reps s.heap (O ++ Hd) ds vs → Reps h' (O ++ Hd) ds vs) ∧ Ext O s O { s with heap := h', toks := tk } ∧
    (∀ b o, B.heap.get? b = some o → h'.get? b = some o ∧ b ∉ O ++ Hd) ∧ (∀ a, a ∈ O ++ Hd → ∃ o, h'.get? a = some o) := by
  have key : ∀ a o, a ∉ O ++ Hd → s.heap.get? a = some o → h'.get? a = some o ∧ a ∉ O ++ Hd := fun a o ha e => ⟨(hs.2 a (fun q => ha (q ▸ List.mem_append_left _ hp))).trans e, ha⟩
  refine ⟨fun d v r => r.mono key, fun d v r => r.mono key, ⟨⟨h', tk, rfl, ht⟩, fun a o ha e => (hs.2 a (fun q => ha (q ▸ hp))).trans e, fun _ h => .inl h⟩,
    fun b o e => key b o (I.base b o e).2 (I.base b o e).1, fun a ha => ?_⟩
  by_cases q : a = p
  · rw [q]; exact hlive
  · obtain ⟨o, ho⟩ := I.live a ha; exact ⟨o, (hs.2 a q).trans ho⟩

theorem Inv.storeS {O Hd : List Addr} {s : Shared} (I : Inv B O Hd env σ s) {x : Str} {sl₀ : Slot} {v : Value} (hx : canStore env x) (r : SlotRep s.heap O Hd env sl₀ v)
    (one' : ∀ y z ds es, (σ.set x sl₀) y = some (.own ds) → (σ.set x sl₀) z = some (.own es) → y = z) {Q : Unit → Shared → Prop} {E : Value → Shared → Prop} {M : Model}
    (h : ∀ s', Ext O s O s' → Inv B O Hd env (σ.set x sl₀) s' → Q () s') : wpAny M A (storeName env x v) Q E s := by
  obtain ⟨m, cm, ns, cs, vs⟩ := I.vars
  rcases hx with hx | ⟨hx, hf, hl⟩
  · refine wpAny_storeName_local hx ns (fun h' hn hs => ?_) (by rw [I.kind]; rfl)
    obtain ⟨o, es, ep, ho, _⟩ := id hn
    obtain ⟨k1, k2, k3, k4, k5⟩ := I.after (tk := s.toks + 1) I.loc hs ⟨o, ho⟩ (Nat.le_succ _)
    refine h _ k3 ⟨?_, k4, k5, I.disj, I.kind, I.glob, I.blt, I.loc, I.cellIn, I.cellNe, I.cellInj, ⟨_, cm, hn, fun y c e => (cs y c e).sameBut hs (I.cellNe y c e), fun y sl e => ?_⟩, one'⟩
    · obtain ⟨h₀, tk, hs₀, h0⟩ := I.same; exact ⟨h', s.toks + 1, by rw [hs₀], Nat.succ_pos _⟩
    · unfold Store.set at e
      by_cases q : y = x
      · rw [if_pos q] at e
        cases e
        refine ⟨v, ?_, ?_⟩
        · unfold Holds; rw [q, hx]; simp
        · cases sl₀ with
          | dat d' => exact k1 d' v r
          | own ds =>
            obtain ⟨a, ws, h3, h4, h5, h6, h7, h8⟩ := r
            exact ⟨a, ws, h3, h4, h5, h6, h7.at fun o e => (hs.2 a h5).trans e, k2 _ _ h8⟩
      · rw [if_neg q] at e
        obtain ⟨v', h1, h2⟩ := vs y sl e
        refine ⟨v', ?_, ?_⟩
        · unfold Holds at h1 ⊢
          split <;> simp_all
        · cases sl with
          | dat d' => exact k1 d' v' h2
          | own ds =>
            obtain ⟨a, ws, h3, h4, h5, h6, h7, h8⟩ := h2
            exact ⟨a, ws, h3, h4, h5, h6, h7.at fun o e => (hs.2 a h5).trans e, k2 _ _ h8⟩
  · obtain ⟨c, hc⟩ := Option.isSome_iff_exists.mp hl
    refine wpAny_storeName_cell I.kind hx hc (cs x c hc) fun h' hv hs => ?_
    have hcO := I.cellIn hf x c hc
    obtain ⟨o, ho, hod⟩ := id hv
    obtain ⟨k1, k2, k3, k4, k5⟩ := I.after (tk := s.toks) hcO hs ⟨o, ho⟩ (Nat.le_refl _)
    refine h _ k3 ⟨?_, k4, k5, I.disj, I.kind, I.glob, I.blt, I.loc, I.cellIn, I.cellNe, I.cellInj, ⟨m, fun y => if y = x then some v else cm y, ns.sameBut hs (Ne.symm (I.cellNe x c hc)), fun y c' e => ?_, fun y sl e => ?_⟩, one'⟩
    · obtain ⟨h₀, tk, hs₀, h0⟩ := I.same; exact ⟨h', s.toks, by rw [hs₀], Nat.pos_of_ne_zero I.pos⟩
    · by_cases q : y = x
      · subst q; rw [hc] at e; cases e; simpa using hv
      · simp only [if_neg q]
        exact (cs y c' e).sameBut hs fun z => q (I.cellInj y x c' e (z ▸ hc))
    · unfold Store.set at e
      by_cases q : y = x
      · rw [if_pos q] at e
        cases e
        refine ⟨v, ?_, ?_⟩
        · unfold Holds; rw [q, hx]; simp [hl]
        · cases sl₀ with
          | dat d' => exact k1 d' v r
          | own ds =>
            obtain ⟨a, ws, h3, h4, h5, h6, h7, h8⟩ := r
            exact ⟨a, ws, h3, h4, h5, h6, h7.at fun o e => (hs.2 a (h6 x c hc)).trans e, k2 _ _ h8⟩
      · rw [if_neg q] at e
        obtain ⟨v', h1, h2⟩ := vs y sl e
        refine ⟨v', ?_, ?_⟩
        · unfold Holds at h1 ⊢
          split <;> simp_all
        · cases sl with
          | dat d' => exact k1 d' v' h2
          | own ds =>
            obtain ⟨a, ws, h3, h4, h5, h6, h7, h8⟩ := h2
            exact ⟨a, ws, h3, h4, h5, h6, h7.at fun o e => (hs.2 a (h6 x c hc)).trans e, k2 _ _ h8⟩

theorem Inv.store {O Hd : List Addr} {s : Shared} (I : Inv B O Hd env σ s) {x : Str} {d : D} {v : Value} (hx : canStore env x) (r : Rep s.heap (O ++ Hd) d v) {Q : Unit → Shared → Prop} {E : Value → Shared → Prop} {M : Model}
    (h : ∀ s', Ext O s O s' → Inv B O Hd env (σ.set x (.dat d)) s' → Q () s') : wpAny M A (storeName env x v) Q E s := by
  refine I.storeS (sl₀ := .dat d) hx r ?_ h
  intro y z ds es h1 h2
  unfold Store.set at h1 h2
  split at h1
  · cases h1
  · split at h2
    · cases h2
    · exact I.one y z ds es h1 h2

theorem WX_assign {x : Str} {pos' pos : Pos} {value : Expr} {Q : Out → Store → Prop} (hx : canStore env x) (h : WE prog w B A env σ value (fun d => Q .next (σ.set x (.dat d))))
    (hs : swapsWith value (some (.Name x pos')) pos.line env = pure false := by rfl) : WX prog w B A env σ (.Assign [.Name x pos'] value pos) Q := fun O Hd s I => by
  refine wpAny_Assign_Name (wpAny_mono (h O Hd s I) (fun v s₁ ⟨k, d, r, q⟩ => ?_) fun _ _ f => f) hs
  exact (I.keeps k).store hx r fun s' x' i' => ⟨O, .next, _, (Ext.of k).trans x', i', rfl, q⟩

end
end Mine

end
section
open PySem PySem.W PySem.Calls PyProof.Rows
namespace Mine

section
variable {prog : Program} {w : World} {B : Shared} {A : Around} {env : Env} {σ : Store}

/-- storing a datum into a target -/
def WA (prog : Program) (w : World) (B : Shared) (A : Around) (env : Env) (σ : Store) (target : Expr) (d : D) (σ' : Store) : Prop :=
  ∀ O Hd s v, Inv B O Hd env σ s → Rep s.heap (O ++ Hd) d v → wpAny (model prog w) A (assign target env v) (fun _ s' => Ext O s O s' ∧ Inv B O Hd env σ' s') no s

theorem WA_name {x : Str} {pos : Pos} {d : D} (hx : canStore env x) : WA prog w B A env σ (.Name x pos) d (σ.set x (.dat d)) := fun O Hd s v I r =>
  assign_Name (I.store hx r fun s' x' i' => ⟨x', i'⟩)

def setAll (σ : Store) : List Str → List D → Store
  | x :: xs, d :: ds => setAll (σ.set x (.dat d)) xs ds
  | _, _ => σ

def LoopP (prog : Program) (w : World) (B : Shared) (A : Around) (env : Env) (target : Expr) (body : List Stmt) (Q : Out → Store → Prop) : List D → Store → Prop
  | [], σ => Q .next σ
  | d :: ds, σ => ∃ σ', WA prog w B A env σ target d σ' ∧ WS prog w B A env σ' body (fun o σ'' => match o with
      | .next => LoopP prog w B A env target body Q ds σ''
      | .cont => LoopP prog w B A env target body Q ds σ''
      | .brk => Q .next σ''
      | .ret v => Q (.ret v) σ'')

theorem Inv.hold {O Hd : List Addr} {s₀ s : Shared} {I : Addr} (J : Inv B O Hd env σ s₀) (k : Kp s₀ s) (hI : s₀.heap.get? I = none) (hI' : ∃ o, s.heap.get? I = some o) : Inv B O (I :: Hd) env σ s := by
  have J' := J.keeps k
  have ne : ∀ b o, s₀.heap.get? b = some o → b ≠ I := fun b o e q => by subst q; rw [hI] at e; cases e
  have nO : I ∉ O := fun h => by obtain ⟨o, ho⟩ := J.live I (List.mem_append_left _ h); exact ne _ _ ho rfl
  have key : ∀ a o, a ∉ O ++ Hd → s₀.heap.get? a = some o → s.heap.get? a = some o ∧ a ∉ O ++ I :: Hd := fun a o ha e => ⟨k.get a o e, fun q => by
    rcases List.mem_append.mp q with q | q
    · exact ha (List.mem_append_left _ q)
    · rcases List.mem_cons.mp q with q | q
      · exact ne a o e q
      · exact ha (List.mem_append_right _ q)⟩
  obtain ⟨m, cm, ns, cs, vs⟩ := J.vars
  refine ⟨J'.same, fun b o e => key b o (J.base b o e).2 (J.base b o e).1, fun a ha => ?_, fun a ha q => ?_, J.kind, J.glob, J.blt, J.loc, J.cellIn, J.cellNe, J.cellInj, ⟨m, cm, ns.keeps k.get, fun x c e => (cs x c e).keeps k.get, fun x sl e => ?_⟩, J.one⟩
  · rcases List.mem_append.mp ha with q | q
    · exact J'.live a (List.mem_append_left _ q)
    · rcases List.mem_cons.mp q with q | q
      · subst q; exact hI'
      · exact J'.live a (List.mem_append_right _ q)
  · rcases List.mem_cons.mp q with q | q
    · subst q; exact nO ha
    · exact J.disj a ha q
  · obtain ⟨v, h1, h2⟩ := vs x sl e
    refine ⟨v, h1, ?_⟩
    cases sl with
    | dat d => exact Rep.mono key h2
    | own ds => obtain ⟨a, ws, h3, h4, h5, h6, h7, h8⟩ := h2; exact ⟨a, ws, h3, h4, h5, h6, h7.at fun o e => k.get _ o e, h8.mono key⟩

theorem Inv.unhold {O Hd : List Addr} {s s' : Shared} {I : Addr} (J : Inv B O (I :: Hd) env σ s) (hf : env.func.isSome = true) (hn : I ∉ Hd) (hs : ∃ h tk, s' = { s with heap := h, toks := tk } ∧ s.toks ≤ tk) (k : ∀ b o, b ≠ I → s.heap.get? b = some o → s'.heap.get? b = some o) : Inv B O Hd env σ s' := by
  have sub : ∀ a, a ∉ O ++ I :: Hd → a ∉ O ++ Hd := fun a ha q => ha (by
    rcases List.mem_append.mp q with q | q
    · exact List.mem_append_left _ q
    · exact List.mem_append_right _ (List.mem_cons_of_mem _ q))
  have neI : ∀ a, a ∉ O ++ I :: Hd → a ≠ I := fun a ha q => ha (by subst q; simp)
  have neO : ∀ a, a ∈ O → a ≠ I := fun a ha q => J.disj a ha (by subst q; simp)
  have key : ∀ a o, a ∉ O ++ I :: Hd → s.heap.get? a = some o → s'.heap.get? a = some o ∧ a ∉ O ++ Hd := fun a o ha e => ⟨k a o (neI a ha) e, sub a ha⟩
  obtain ⟨m, cm, ns, cs, vs⟩ := J.vars
  have nL := neO _ J.loc
  refine ⟨?_, fun b o e => key b o (J.base b o e).2 (J.base b o e).1, fun a ha => ?_, fun a ha q => J.disj a ha (List.mem_cons_of_mem _ q), J.kind, J.glob, J.blt, J.loc, J.cellIn, J.cellNe, J.cellInj, ?_, J.one⟩
  · obtain ⟨h, tk, e, ht⟩ := hs; obtain ⟨h₀, tk₀, e₀, h0⟩ := J.same; exact ⟨h, tk, by rw [e, e₀], Nat.lt_of_lt_of_le (Nat.pos_of_ne_zero J.pos) ht⟩
  · rcases List.mem_append.mp ha with q | q
    · obtain ⟨o, ho⟩ := J.live a (List.mem_append_left _ q); exact ⟨o, k a o (neO a q) ho⟩
    · obtain ⟨o, ho⟩ := J.live a (List.mem_append_right _ (List.mem_cons_of_mem _ q)); exact ⟨o, k a o (fun z => hn (z ▸ q)) ho⟩
  · refine ⟨m, cm, ns.at' fun o e => k _ o nL e, fun x c e => ?_, fun x sl e => ?_⟩
    · obtain ⟨o, ho, hd⟩ := cs x c e; exact ⟨o, k c o (neO c (J.cellIn hf x c e)) ho, hd⟩
    · obtain ⟨v, h1, h2⟩ := vs x sl e
      refine ⟨v, h1, ?_⟩
      cases sl with
      | dat d => exact Rep.mono key h2
      | own ds => obtain ⟨a, ws, h3, h4, h5, h6, h7, h8⟩ := h2; exact ⟨a, ws, h3, h4, h5, h6, h7.at fun o e => k _ o (neO a h4) e, h8.mono key⟩

theorem Inv.mutHd {O Hd : List Addr} {s s' : Shared} {I : Addr} (J : Inv B O (I :: Hd) env σ s) (hf : env.func.isSome = true) (hn : I ∉ Hd) (hs : ∃ h tk, s' = { s with heap := h, toks := tk } ∧ s.toks ≤ tk) (hI : ∃ o, s'.heap.get? I = some o)
    (k : ∀ b o, b ≠ I → s.heap.get? b = some o → s'.heap.get? b = some o) : Inv B O (I :: Hd) env σ s' := by
  have neI : ∀ a, a ∉ O ++ I :: Hd → a ≠ I := fun a ha q => ha (by subst q; simp)
  have neO : ∀ a, a ∈ O → a ≠ I := fun a ha q => J.disj a ha (by subst q; simp)
  have key : ∀ a o, a ∉ O ++ I :: Hd → s.heap.get? a = some o → s'.heap.get? a = some o ∧ a ∉ O ++ I :: Hd := fun a o ha e => ⟨k a o (neI a ha) e, ha⟩
  obtain ⟨m, cm, ns, cs, vs⟩ := J.vars
  refine ⟨?_, fun b o e => key b o (J.base b o e).2 (J.base b o e).1, fun a ha => ?_, J.disj, J.kind, J.glob, J.blt, J.loc, J.cellIn, J.cellNe, J.cellInj, ?_, J.one⟩
  · obtain ⟨h, tk, e, ht⟩ := hs; obtain ⟨h₀, tk₀, e₀, h0⟩ := J.same; exact ⟨h, tk, by rw [e, e₀], Nat.lt_of_lt_of_le (Nat.pos_of_ne_zero J.pos) ht⟩
  · by_cases q : a = I
    · subst q; exact hI
    · obtain ⟨o, ho⟩ := J.live a ha; exact ⟨o, k a o q ho⟩
  · refine ⟨m, cm, ns.at' fun o e => k _ o (neO _ J.loc) e, fun x c e => ?_, fun x sl e => ?_⟩
    · obtain ⟨o, ho, hd⟩ := cs x c e; exact ⟨o, k c o (neO c (J.cellIn hf x c e)) ho, hd⟩
    · obtain ⟨v, h1, h2⟩ := vs x sl e
      refine ⟨v, h1, ?_⟩
      cases sl with
      | dat d => exact Rep.mono key h2
      | own ds => obtain ⟨a, ws, h3, h4, h5, h6, h7, h8⟩ := h2; exact ⟨a, ws, h3, h4, h5, h6, h7.at fun o e => k _ o (neO a h4) e, h8.mono key⟩

theorem WX_for {target iter : Expr} {body : List Stmt} {pos : Pos} {Q : Out → Store → Prop} (hf : env.func.isSome = true) (h : WI prog w B A env σ iter (fun ds => LoopP prog w B A env target body Q ds σ))
    (hs : ∀ x, foldedSetIterable iter env x = pure x := by intro _; rfl) : WX prog w B A env σ (.For target iter body [] pos) Q := fun O Hd s J => by
  refine wpAny_For (wpAny_mono (h O Hd s J) (fun x s₁ h₁ => wpAny_mono h₁ (fun it s₂ ⟨k₂, I, ds, e, t, L⟩ => ?_) fun _ _ f => f.elim) fun _ _ f => f.elim) hs
  subst e
  obtain ⟨fp, P, St, W, st, hfp, hfp', hI, hP, hgo⟩ := t.walk
  have nHd : I ∉ Hd := fun q => by obtain ⟨o, ho⟩ := J.live I (List.mem_append_right _ q); rw [t.fresh] at ho; cases ho
  have nO : I ∉ O := fun q => by obtain ⟨o, ho⟩ := J.live I (List.mem_append_left _ q); rw [t.fresh] at ho; cases ho
  have J₂ := J.hold k₂ t.fresh (hI 0 _ st)
  have hex : ∀ i d, ds[i]? = some d → i < ds.length := fun i d e => by
    rcases Nat.lt_or_ge i ds.length with h | h
    · exact h
    · rw [List.getElem?_eq_none h] at e; cases e
  refine codeAny_forLoop_any (fun n s' => ∃ i O' σ', n = ds.length + 1 - i ∧ i ≤ ds.length ∧ St i s'.heap ∧ Inv B O' (I :: Hd) env σ' s' ∧ Ext O s O' s' ∧ LoopP prog w B A env target body Q (ds.drop i) σ' ∧
      (∀ b ∈ fp, b ∉ O') ∧ (∀ i v d, P i v → ds[i]? = some d → Rep s'.heap (O' ++ I :: Hd) d v) ∧ (∀ b ∈ fp, ∃ o, s'.heap.get? b = some o)) ?_ (ds.length + 1) ⟨0, O, σ, by omega, by omega, st, J₂, Ext.of k₂, by simpa using L, fun b hb q => hfp b hb (List.mem_append_left _ q), ?_, hfp'⟩
  · rintro n s₃ ⟨i, O₃, σ₃, rfl, hi, st₃, J₃, x₃, L₃, hO₃, hP₃, hE₃⟩
    have keep3 : ∀ {h' : Heap} {tk : Nat}, (∀ b o, b ∉ [I] → s₃.heap.get? b = some o → h'.get? b = some o) → s₃.toks ≤ tk → Ext O s O₃ { s₃ with heap := h', toks := tk } := fun {h' tk} kk htk =>
      ⟨by obtain ⟨h₀, tk₀, e₀, ht₀⟩ := x₃.same; exact ⟨h', tk, by rw [e₀], Nat.le_trans ht₀ (by rw [e₀] at htk; exact htk)⟩, fun a o ha e => kk a o (fun q => by simp at q; subst q; rw [t.fresh] at e; cases e) (x₃.keep a o ha e), x₃.own⟩
    by_cases hlt : i < ds.length
    · refine wpAny_with_toks (n := s₃.toks) (Nat.le_refl _) (W.item i s₃ _ _ hlt st₃ fun v h₄ tk₄ pv st₄ k₄ ht₄ => ?_)
      have J₄ : Inv B O₃ (I :: Hd) env σ₃ { s₃ with heap := h₄, toks := tk₄ } := J₃.mutHd hf nHd ⟨_, _, rfl, ht₄⟩ (hI _ _ st₄) fun b o hb e => k₄ b o (by simpa using hb) e
      have hd : ds[i]? = some ds[i] := by simp [hlt]
      have r₃ := hP₃ i v _ pv hd
      have key : ∀ a o, a ∉ O₃ ++ I :: Hd → s₃.heap.get? a = some o → h₄.get? a = some o ∧ a ∉ O₃ ++ I :: Hd := fun a o ha e => ⟨k₄ a o (fun q => ha (by simp at q; subst q; simp)) e, ha⟩
      have r₄ : Rep h₄ (O₃ ++ I :: Hd) ds[i] v := r₃.mono key
      refine hgo (i + 1) _ v target _ _ st₄ ?_
      rw [List.drop_eq_getElem_cons hlt] at L₃
      obtain ⟨σ₅, wa, ws⟩ := L₃
      refine wpAny_mono (wa O₃ (I :: Hd) _ v J₄ r₄) (fun _ s₅ ⟨x₅, J₅⟩ => ?_) fun _ _ f => f.elim
      refine wpAny_mono (ws O₃ (I :: Hd) s₅ J₅) (fun f s₆ ⟨O₆, o, σ₆, x₆, J₆, fl, q⟩ => ?_) fun _ _ f => f.elim
      have x46 : Ext O₃ { s₃ with heap := h₄, toks := tk₄ } O₆ s₆ := x₅.trans x₆
      have xall : Ext O s O₆ s₆ := (keep3 k₄ ht₄).trans x46
      have again : LoopP prog w B A env target body Q (ds.drop (i + 1)) σ₆ → ∃ m, m < ds.length + 1 - i ∧ ∃ i' O' σ', m = ds.length + 1 - i' ∧ i' ≤ ds.length ∧ St i' s₆.heap ∧ Inv B O' (I :: Hd) env σ' s₆ ∧ Ext O s O' s₆ ∧
          LoopP prog w B A env target body Q (ds.drop i') σ' ∧ (∀ b ∈ fp, b ∉ O') ∧ (∀ i v d, P i v → ds[i]? = some d → Rep s₆.heap (O' ++ I :: Hd) d v) ∧ (∀ b ∈ fp, ∃ o, s₆.heap.get? b = some o) := fun L₆ => by
        have hfpo : ∀ b ∈ fp, ∃ o, h₄.get? b = some o := fun b hb => by
          obtain ⟨o, ho⟩ := hE₃ b hb
          by_cases hbI : b = I
          · subst hbI; exact hI _ _ st₄
          · exact ⟨o, k₄ b o (by simpa using hbI) ho⟩
        refine ⟨ds.length + 1 - (i + 1), by omega, i + 1, O₆, σ₆, rfl, by omega, ?_, J₆, xall, L₆, ?_, ?_, ?_⟩
        · exact W.frame _ _ _ st₄ fun b hb o e => x46.keep b o (hO₃ b hb) e
        · intro b hb q
          rcases x46.own b q with h1 | h1
          · exact hO₃ b hb h1
          · obtain ⟨o, ho⟩ := hfpo b hb; rw [ho] at h1; cases h1
        · intro j u d pu hd
          refine (hP₃ j u d pu hd).mono fun a o ha e => ?_
          have h4 := key a o ha e
          refine ⟨x46.keep a o (fun q => ha (List.mem_append_left _ q)) h4.1, fun q => ?_⟩
          rcases List.mem_append.mp q with q | q
          · rcases x46.own a q with h1 | h1
            · exact ha (List.mem_append_left _ h1)
            · have h4' := h4.1
              rw [show h₄.get? a = ({ s₃ with heap := h₄, toks := tk₄ } : Shared).heap.get? a from rfl, h1] at h4'; cases h4'
          · exact ha (List.mem_append_right _ q)
        · intro b hb
          obtain ⟨o, ho⟩ := hfpo b hb
          exact ⟨o, x46.keep b o (hO₃ b hb) ho⟩
      cases o with
      | next => cases fl; exact again q
      | cont => cases fl; exact again q
      | brk => cases fl; exact ⟨O₆, .next, σ₆, xall, J₆.unhold hf nHd ⟨s₆.heap, s₆.toks, rfl, Nat.le_refl _⟩ fun b o _ e => e, rfl, q⟩
      | ret d =>
        obtain ⟨v, rfl, r⟩ := fl
        refine ⟨O₆, .ret d, σ₆, xall, J₆.unhold hf nHd ⟨s₆.heap, s₆.toks, rfl, Nat.le_refl _⟩ fun b o _ e => e, ⟨v, rfl, r.mono fun a o ha e => ⟨e, fun q => ha ?_⟩⟩, q⟩
        rcases List.mem_append.mp q with q | q
        · exact List.mem_append_left _ q
        · exact List.mem_append_right _ (List.mem_cons_of_mem _ q)
    · have hi' : i = ds.length := by omega
      subst hi'
      refine wpAny_with_toks (n := s₃.toks) (Nat.le_refl _) (W.done s₃ _ _ st₃ fun h₄ tk₄ k₄ ht₄ => ?_)
      rw [List.drop_of_length_le (Nat.le_refl _)] at L₃
      refine wpAny_execs_nil ⟨O₃, .next, σ₃, keep3 k₄ ht₄, J₃.unhold hf nHd ⟨_, _, rfl, ht₄⟩ fun b o hb e => k₄ b o (by simpa using hb) e, rfl, L₃⟩
  · intro i v d pv hd
    refine (hP i v d pv hd).mono fun a o ha e => ⟨e, fun q => ha ?_⟩
    rcases List.mem_append.mp q with q | q
    · exact List.mem_cons_of_mem _ (List.mem_append_left _ q)
    · rcases List.mem_cons.mp q with q | q
      · subst q; simp
      · exact List.mem_cons_of_mem _ (List.mem_append_right _ q)
end
end Mine

end
section
open PySem PySem.W PySem.Calls PyProof.Rows
namespace Mine

section
variable {prog : Program} {w : World} {B : Shared} {A : Around} {env : Env} {σ : Store}

end
end Mine

end
section
open PySem PySem.W PySem.Calls PyProof.Rows
namespace Mine

section
variable {prog : Program} {w : World} {B : Shared} {A : Around} {env : Env} {σ : Store}

-- a call of a def of the module
def paramsAre (names : List Str) (args : List D) : Store := setAll (fun _ => none) names args

theorem binds_hold {h : Heap} {X : List Addr} : ∀ (xs : List Str) (ds : List D) (vs : List Value) (σ : Store) (m cm : Str → Option Value), ds.length = xs.length → Reps h X ds vs →
    (∀ x ∈ xs, env.kindOf x = some .local ∨ (env.kindOf x = some .cell ∧ (env.cells.lookup x).isSome = true)) →
    (∀ x sl, σ x = some sl → ∃ d v, sl = .dat d ∧ Holds env m cm x v ∧ Rep h X d v) →
    ∀ x sl, setAll σ xs ds x = some sl → ∃ d v, sl = .dat d ∧ Holds env (bindL env.kindOf (xs.zip vs) m) (bindC env.kindOf (xs.zip vs) cm) x v ∧ Rep h X d v
  | [], [], vs, σ, m, cm, _, _, _, hσ => by simpa [setAll, bindL, bindC] using hσ
  | [], _ :: _, vs, σ, m, cm, hl, _, _, _ => by simp at hl
  | _ :: _, [], vs, σ, m, cm, hl, _, _, _ => by simp at hl
  | x :: xs, d :: ds, vs, σ, m, cm, hl, ⟨v, vs', e, r, rs⟩, hk, hσ => by
    subst e
    simp only [List.zip_cons_cons, setAll, bindL, bindC]
    refine binds_hold xs ds vs' _ _ _ (by simpa using hl) rs (fun y hy => hk y (by simp [hy])) fun y sl hy => ?_
    unfold Store.set at hy
    rcases hk x (by simp) with hx | ⟨hx, hc⟩
    · rw [if_pos hx, if_pos hx]
      by_cases q : y = x
      · rw [if_pos q] at hy; cases hy
        refine ⟨d, v, rfl, ?_, r⟩
        unfold Holds; rw [q, hx]; simp
      · rw [if_neg q] at hy
        obtain ⟨d', v', h1, h2, h3⟩ := hσ y sl hy
        refine ⟨d', v', h1, ?_, h3⟩
        unfold Holds at h2 ⊢
        split <;> simp_all
    · have hnl : ¬ env.kindOf x = some .local := by rw [hx]; decide
      rw [if_neg hnl, if_neg hnl]
      by_cases q : y = x
      · rw [if_pos q] at hy; cases hy
        refine ⟨d, v, rfl, ?_, r⟩
        unfold Holds; rw [q, hx]; simp [hc]
      · rw [if_neg q] at hy
        obtain ⟨d', v', h1, h2, h3⟩ := hσ y sl hy
        refine ⟨d', v', h1, ?_, h3⟩
        unfold Holds at h2 ⊢
        split <;> simp_all

theorem Inv.start {fd : FuncData} {X : List Addr} {s s₁ : Shared} {f : Addr} {names : List Str} {args : List D} {vals : List Value} (g : Grd B X s)
    (hgl : fd.globals = mainGlobals) (hbl : fd.builtins = builtinsNs) (hk : fd.scope.kind = .function)
    (x : InCallC s (callEnvC fd s.heap.objs.size f).locals (bindL (callEnvC fd s.heap.objs.size f).kindOf (names.zip vals) fun _ => none) (callEnvC fd s.heap.objs.size f).cells
        (bindC (callEnvC fd s.heap.objs.size f).kindOf (names.zip vals) fun _ => none) s₁)
    (hkind : ∀ y ∈ names, (callEnvC fd s.heap.objs.size f).kindOf y = some .local ∨ ((callEnvC fd s.heap.objs.size f).kindOf y = some .cell ∧ ((callEnvC fd s.heap.objs.size f).cells.lookup y).isSome = true))
    (hl : args.length = names.length) (r : Reps s.heap X args vals) (hnd : ((cellsFrom 0 fd.scope.names []).map (·.1)).Nodup) (ht : s.toks ≤ s₁.toks) :
    Inv B (s.heap.objs.size :: (callEnvC fd s.heap.objs.size f).cells.map (·.2)) X (callEnvC fd s.heap.objs.size f) (paramsAre names args) s₁ := by
  have k := x.toInCall.keep
  have new : ∀ a, a ∈ s.heap.objs.size :: (callEnvC fd s.heap.objs.size f).cells.map (·.2) → s.heap.objs.size ≤ a := fun a ha => by
    rcases List.mem_cons.mp ha with q | q
    · exact Nat.le_of_eq q.symm
    · obtain ⟨⟨n, c⟩, h1, h2⟩ := List.mem_map.mp q
      subst h2
      exact Nat.le_of_lt (x.above n c h1)
  have key : ∀ a o, a ∉ X → s.heap.get? a = some o → s₁.heap.get? a = some o ∧ a ∉ (s.heap.objs.size :: (callEnvC fd s.heap.objs.size f).cells.map (·.2)) ++ X := fun a o ha e => ⟨k a o e, fun q => by
    rcases List.mem_append.mp q with q | q
    · exact absurd (Heap.lt_size e) (Nat.not_lt.mpr (new a q))
    · exact ha q⟩
  have cellAt : ∀ n c, (callEnvC fd s.heap.objs.size f).cells.lookup n = some c → (n, c) ∈ (callEnvC fd s.heap.objs.size f).cells := fun n c e => PySem.mem_of_lookup e
  refine ⟨?_, fun b o e => key b o (g.base b o e).2 (g.base b o e).1, fun a ha => ?_, fun a ha q => ?_, hk, hgl, hbl, List.mem_cons_self, fun _ y c e => List.mem_cons_of_mem _ (List.mem_map.mpr ⟨_, cellAt y c e, rfl⟩), fun y c e => Nat.ne_of_gt (x.above y c (cellAt y c e)),
    fun y z c e e' => name_of_addr x.apart (cellAt y c e) (cellAt z c e'), ⟨_, _, x.toInCall.ns, x.cell, fun y sl e => ?_⟩, fun y z ds es e => ?_⟩
  · obtain ⟨h, tk, e⟩ := x.toInCall.same; obtain ⟨h₀, tk₀, e₀, h0⟩ := g.same; exact ⟨h, tk, by rw [e, e₀], by subst e; exact Nat.lt_of_lt_of_le (Nat.pos_of_ne_zero g.live.pos) ht⟩
  · rcases List.mem_append.mp ha with q | q
    · rcases List.mem_cons.mp q with q | q
      · obtain ⟨o, _, _, ho, _⟩ := x.toInCall.ns; subst q; exact ⟨o, ho⟩
      · obtain ⟨⟨n, c⟩, h1, h2⟩ := List.mem_map.mp q
        subst h2
        have e : (callEnvC fd s.heap.objs.size f).cells.lookup n = some c := lookup_of_mem_nodup (cellsFrom_names fd.scope.names 0 (s.heap.objs.size + 1) [] [] rfl ▸ hnd) h1
        obtain ⟨o, ho, _⟩ := x.cell n c e
        exact ⟨o, ho⟩
    · obtain ⟨o, ho⟩ := g.live.at_ a q; exact ⟨o, k a o ho⟩
  · obtain ⟨o, ho⟩ := g.live.at_ a q; exact absurd (Heap.lt_size ho) (Nat.not_lt.mpr (new a ha))
  · obtain ⟨d, v, h1, h2, h3⟩ := binds_hold (env := callEnvC fd s.heap.objs.size f) names args vals (fun _ => none) (fun _ => none) (fun _ => none) hl r hkind (fun _ _ e => by cases e) y sl e
    subst h1
    exact ⟨v, h2, Rep.mono key h3⟩
  · obtain ⟨d, v, h1, _⟩ := binds_hold (env := callEnvC fd s.heap.objs.size f) names args vals (fun _ => none) (fun _ => none) (fun _ => none) hl r hkind (fun _ _ e => by cases e) y _ e
    cases h1

theorem WC_def {mg mb : Str → Option Value} (G : Base B mg mb) {x : Str} {f : Addr} {fd : FuncData} (H : FnAt B mg x f fd) {names : List Str} {args : List D} {body : List Stmt} {Q : D → Prop}
    (hroom : A.depth < recursionLimit) (hbody : fd.body = .stmts body) (hclo : fd.closure = []) (hgl : fd.globals = mainGlobals) (hbl : fd.builtins = builtinsNs)
    (hco : fd.scope.isCoroutine = false) (hgen : fd.scope.isGenerator = false) (hk : fd.scope.kind = .function) (hnd : ((cellsFrom 0 fd.scope.names []).map (·.1)).Nodup)
    (hl : args.length = names.length) (hbind : ∀ vals : List Value, vals.length = names.length → bindArgs fd ⟨vals, []⟩ = pure (names.zip vals))
    (hkind : ∀ L, ∀ y ∈ names, (callEnvC fd L f).kindOf y = some .local ∨ ((callEnvC fd L f).kindOf y = some .cell ∧ ((callEnvC fd L f).cells.lookup y).isSome = true))
    (h : ∀ L, WS prog w B (A.deeper (callEnvC fd L f)) (callEnvC fd L f) (paramsAre names args) body (fun o _ => match o with | .ret d => Q d | _ => False)) : WC prog w B A (.ref f) args Q := fun X s vals g r => by
  obtain ⟨o, ho, hdat⟩ := H.obj
  have hk' : ∀ b o, B.heap.get? b = some o → s.heap.get? b = some o := fun b o e => (g.base b o e).1
  refine wpAny_call (codeAny_call_function hroom (hk' _ _ ho) hdat hco hgen hbody (H.code.keeps hk') ?_)
  rw [hbind vals (by rw [r.length, hl]), hclo]
  refine wpAny_pure (wpAny_with_toks (n := s.toks) (Nat.le_refl _) (wpAny_newFunctionEnv_cells hk ?_ fun env he s₁ x ht => ?_))
  · intro y hy
    have hy' : y.1 ∈ names := (List.of_mem_zip (a := y.1) (b := y.2) hy).1
    exact hkind s.heap.objs.size y.1 hy'
  · subst he
    refine ⟨(G.nolimit.keeps hk').keeps x.toInCall.keep, codeAny_func ?_⟩
    have J := Inv.start (B := B) g hgl hbl hk x (hkind s.heap.objs.size) hl r hnd ht
    refine wpAny_mono (h s.heap.objs.size _ X s₁ J) (fun fl s' ⟨O', o, σ', x', i', fl', q⟩ => ?_) fun _ _ f => f.elim
    have kp : Kp s s' := by
      obtain ⟨h₁, tk₁, e₁⟩ := x.toInCall.same
      obtain ⟨h₂, tk₂, e₂, ht₂⟩ := x'.same
      refine ⟨⟨h₂, tk₂, by rw [e₂, e₁], Nat.le_trans ht ht₂⟩, fun b o e => x'.keep b o (fun hb => ?_) (x.toInCall.keep b o e)⟩
      rcases List.mem_cons.mp hb with q | q
      · subst q; exact absurd (Heap.lt_size e) (Nat.lt_irrefl _)
      · obtain ⟨⟨n, c⟩, h1, h2⟩ := List.mem_map.mp q
        have := x.above n c h1
        simp only at h2
        subst h2
        exact absurd (Heap.lt_size e) (Nat.not_lt.mpr (Nat.le_of_lt this))
    cases o with
    | ret d =>
      obtain ⟨v, rfl, rv⟩ := fl'
      exact ⟨kp, d, rv.mono fun a o ha e => ⟨e, fun z => ha (List.mem_append_right _ z)⟩, q⟩
    | _ => exact q.elim

-- ranges
def rangeD (a b c : Int) : List D := (List.range (Builtin.Range.rangeSize a b c).toNat).map fun (i : Nat) => D.int (a + i * c)

theorem iter_range {X : List Addr} {s : Shared} {r : Addr} {a b c : Int} {t u v : Tok} (hA : A.handled = none) (l : Live X s) (hr : IsRange s.heap r a b c t u v) (hsm : Builtin.Range.small a b c = true) :
    wpAny (model prog w) A (pyIter (.ref r)) (fun it s' => Kp s s' ∧ ∃ I, it = .ref I ∧ It prog w A s X I (rangeD a b c) s') no s := by
  refine wpAny_pyIter_range hr hsm ?_
  have hn := rangeSize_toNat a b c
  have hlen : (rangeD a b c).length = (Builtin.Range.rangeSize a b c).toNat := by simp [rangeD]
  have W := Walks.range (prog := prog) (w := w) hA s.heap.objs.size a c (Builtin.Range.rangeSize a b c).toNat
  rw [← hlen] at W
  refine ⟨Kp.push _ _, _, rfl, ⟨[s.heap.objs.size], _, _, W, ?_, ?_, ?_, ?_, ?_, ?_⟩, ?_⟩
  · show IsRangeIter _ _ _ _ _
    rw [hlen, ← hn]
    simpa using Heap.get?_push_size _ rfl
  · intro b hb; simp at hb; subst hb; exact l.fresh
  · intro b hb; simp at hb; subst hb; exact ⟨_, Heap.get?_push_size _ rfl⟩
  · exact fun i h st => ⟨_, st⟩
  · rintro i v d ⟨t, rfl⟩ hd
    unfold rangeD at hd
    rw [List.getElem?_map] at hd
    cases hi : (List.range (Builtin.Range.rangeSize a b c).toNat)[i]? with
    | none => rw [hi] at hd; cases hd
    | some j =>
      rw [hi] at hd
      have : j = i := by
        have := List.getElem?_range (n := (Builtin.Range.rangeSize a b c).toNat) (i := i)
        by_cases h : i < (Builtin.Range.rangeSize a b c).toNat
        · rw [this h] at hi; cases hi; rfl
        · rw [List.getElem?_eq_none (by simpa using h)] at hi; cases hi
      subst this
      cases hd
      exact rep_int
  · intro i s' v target Q E st hq
    exact letOwned_ref (cls := "range_iterator") (l := rawInt _) (vs := [rawInt _, rawInt _]) ⟨_, st, rfl, rfl⟩ (fun _ => .inr (by decide)) hq
  · cases e : s.heap.get? s.heap.objs.size with
    | none => rfl
    | some o => exact absurd (Heap.lt_size e) (Nat.lt_irrefl _)

theorem small_of {a b c : Int} (ha : -(2 ^ 40) ≤ a ∧ a ≤ 2 ^ 40) (hb : -(2 ^ 40) ≤ b ∧ b ≤ 2 ^ 40) (hc : 1 ≤ c ∧ c ≤ 2 ^ 40) : Builtin.Range.small a b c = true := by
  have h1 := rangeSize_toNat a b c
  have h2 := rangeSize_toNat_le a b c
  have f : ∀ x : Int, -(2 ^ 62) ≤ x → x ≤ 2 ^ 62 → Builtin.Range.rangeFitsLong x = true := fun x h1 h2 => by
    simp [Builtin.Range.rangeFitsLong]; omega
  unfold Builtin.Range.small
  rw [f a (by omega) (by omega), f b (by omega) (by omega), f c (by omega) (by omega), f (Builtin.Range.rangeSize a b c) (by omega) (by omega)]
  rw [if_pos (by omega), f (b + (c - 1)) (by omega) (by omega)]
  simp

/-- range(..) as a loop's source -/
theorem WI_range {mg mb : Str → Option Value} (G : Base B mg mb) {p pos : Pos} {e : Expr} {args : List Expr} {Q : List D → Prop} (hA : A.handled = none)
    (hx : env.kindOf "range" = some .globalImplicit) (hm : mg "range" = none)
    (h : WEs prog w B A env σ (e :: args) (fun ds => ∃ a b c, (ds = [.int b] ∧ a = 0 ∧ c = 1 ∨ ds = [.int a, .int b] ∧ c = 1 ∨ ds = [.int a, .int b, .int c]) ∧ (-(2 ^ 40) ≤ a ∧ a ≤ 2 ^ 40) ∧ (-(2 ^ 40) ≤ b ∧ b ≤ 2 ^ 40) ∧ (1 ≤ c ∧ c ≤ 2 ^ 20) ∧ Q (rangeD a b c)))
    (hs : noStar (e :: args) = true := by rfl) : WI prog w B A env σ (.Call (.Name "range" p) (e :: args) [] pos) Q := fun O Hd s I => by
  refine Call_Name rfl (load_builtin G I hx hm (v := .type "range") (by with_unfolding_all rfl) ?_ (by decide) (by decide))
  refine callWith_type1 (wpAny_mono (WEs.wp (e :: args) _ s hs h I) (fun vs s₁ ⟨k₁, ds, rs, a, b, c, hd, ha, hb, hc, q⟩ => ?_) fun _ _ f => f.elim) (starEach_plain hs).1 (WEs.any args (starEach_plain (env := env) hs).2)
  have I₁ := I.keeps k₁
  have hsm := small_of ha hb (c := c) ⟨hc.1, by omega⟩
  have fin : ∀ (t u v : Tok) (tk : Nat), s₁.toks ≤ tk → wpAny (model prog w) A (pyIter (.ref s₁.heap.objs.size)) (fun it s₂ => Kp s s₂ ∧ ∃ I ds, it = .ref I ∧ It prog w A s (O ++ Hd) I ds s₂ ∧ Q ds) no
      { s₁ with heap := s₁.heap.push { cls := .type "range", data := .fields #[.int a t, .int b u, .int c v] }, toks := tk } := fun t u v tk htk => by
    have kk : Kp s₁ { s₁ with heap := s₁.heap.push { cls := .type "range", data := .fields #[.int a t, .int b u, .int c v] }, toks := tk } := Kp.mk' (fun _ _ e => Heap.get?_push_of_some _ e) htk
    refine wpAny_mono (iter_range (X := O ++ Hd) hA (I₁.lives.keeps kk) (IsRange.new ..) hsm) (fun it s₂ ⟨k₂, I', e, t⟩ => ⟨(k₁.trans kk).trans k₂, I', _, e, t.older (k₁.trans kk), q⟩) fun _ _ f => f
  rcases hd with ⟨hd, rfl, rfl⟩ | ⟨hd, rfl⟩ | hd
  · subst hd
    obtain ⟨v₁, r₁, rfl, h1, h2⟩ := rs
    cases h2
    obtain ⟨t, rfl⟩ := h1.int_inv
    exact call_range_1 (fin _ _ _ _ (by omega))
  · subst hd
    obtain ⟨v₁, r₁, rfl, h1, v₂, r₂, rfl, h2, h3⟩ := rs
    cases h3
    obtain ⟨t, rfl⟩ := h1.int_inv
    obtain ⟨t', rfl⟩ := h2.int_inv
    exact call_range_2 (fin _ _ _ _ (by omega))
  · subst hd
    obtain ⟨v₁, r₁, rfl, h1, v₂, r₂, rfl, h2, v₃, r₃, rfl, h3, h4⟩ := rs
    cases h4
    obtain ⟨t, rfl⟩ := h1.int_inv
    obtain ⟨t', rfl⟩ := h2.int_inv
    obtain ⟨t'', rfl⟩ := h3.int_inv
    exact call_range_3 (by omega) (fin _ _ _ _ (by omega)) (Or.inl (PyProof.noPylong_small (by omega)))
end
end Mine

end
section
open PySem PySem.W PySem.Calls PyProof.Rows
namespace Mine

section
variable {prog : Program} {w : World} {B : Shared} {A : Around} {env : Env} {σ : Store}

end
end Mine

end
section
open PySem PySem.W PySem.Calls PyProof.Rows PySem.SeqAt
namespace Mine

/-- equality of plain items -/
def eqD : D → D → Option Bool
  | .int a, .int b => some (a == b)
  | .flt a, .flt b => if (Float64.cmp a b == some .eq) = true then some true else none
  | .typ a, .typ b => if (a == b) = true then some true else none
  | _, _ => none
def eqL : List D → List D → Option Bool
  | [], [] => some true
  | a :: as, b :: bs => match eqD a b, eqL as bs with
    | some x, some y => some (x && y)
    | _, _ => none
  | _, _ => none

section
variable {prog : Program} {w : World} {B : Shared} {A : Around} {env : Env} {σ : Store}

theorem EqAt.flt {s : Shared} {a b : UInt64} {t u : Tok} (h : (Float64.cmp a b == some .eq) = true) (ht : t ≠ 0) (hu : u ≠ 0) (hb : NoneBooked s.heap) : EqAt A s (.float a t) (.float b u) true := fun prog w E Q hq => by
  unfold eqBool
  refine wpAny_holding ?_
  by_cases hab : (Value.float a t == Value.float b u) = true
  · rw [if_pos hab]
    exact wpAny_bind (wpAny_rule (wpAny_pure hq))
  · rw [if_neg hab]
    have key : wpAny (model prog w) A (isSame (.float a t) (.float b u)) (fun _ s' => s' = s) E s := by
      show wpAny _ A (isSame.created (a == b && !Float64.isNaN a) t u) _ E s
      unfold isSame.created
      refine wpAny_ite ?_
      split
      · rename_i h; simp at h; rcases h with h | h
        · exact absurd h ht
        · exact absurd h hu
      refine wpAny_ite ?_
      split
      · exact wpAny_pure rfl
      refine wpAny_ite ?_
      split
      · exact wpAny_pure rfl
      refine wpAny_bind (wpAny_sharingNotTold_none hb ?_)
      first | rw [if_neg Bool.false_ne_true] | simp only [Bool.false_eq_true, if_false]
      refine wpAny_bind (wpAny_sharingNotTold_none hb ?_)
      first | rw [if_neg Bool.false_ne_true] | simp only [Bool.false_eq_true, if_false]
      exact wpAny_bind (wpAny_rule (wpAny_bind (wpAny_askSetting (wpAny_pure rfl))))
    have rc : wpAny (model prog w) A (richCompare .Eq (.float a t) (.float b u)) (fun v s' => v = .bool true ∧ s' = s) E s := AutoFloatOps.eq_0 (Q := fun v s' => v = .bool true ∧ s' = s) ⟨by rw [h], rfl⟩
    refine wpAny_bind (wpAny_mono key (fun c s' hs => ?_) fun _ _ e => e)
    subst hs
    cases c with
    | true => exact wpAny_pure hq
    | false =>
      refine wpAny_bind (wpAny_mono rc (fun v s' hv => ?_) fun _ _ e => e)
      obtain ⟨rfl, rfl⟩ := hv
      exact wpAny_truthy_bool hq

theorem eqD_at {s : Shared} {X : List Addr} {a b : D} {va vb : Value} {r : Bool} (h : eqD a b = some r) (hb : NoneBooked s.heap) (ra : Rep s.heap X a va) (rb : Rep s.heap X b vb) : EqAt A s va vb r := by
  unfold eqD at h
  split at h
  · cases h
    obtain ⟨t, rfl⟩ := ra.int_inv; obtain ⟨u, rfl⟩ := rb.int_inv
    exact EqAt.int_int _ _ _ _
  · split at h
    · rename_i hc
      cases h
      obtain ⟨t, rfl, ht⟩ := ra.flt_inv; obtain ⟨u, rfl, hu⟩ := rb.flt_inv
      exact EqAt.flt hc ht hu hb
    · cases h
  · split at h
    · rename_i hc
      cases h
      cases ra.typ_inv; cases rb.typ_inv
      rw [beq_iff_eq.mp hc]
      exact EqAt.same _
    · cases h
  · cases h

theorem eqL_len : ∀ {as bs : List D} {r : Bool}, eqL as bs = some r → as.length = bs.length
  | [], [], _, _ => rfl
  | [], _ :: _, _, h => by simp [eqL] at h
  | _ :: _, [], _, h => by simp [eqL] at h
  | a :: as, b :: bs, r, h => by
    simp only [eqL] at h
    split at h
    · rename_i x y hx hy
      rw [List.length_cons, List.length_cons, eqL_len hy]
    · cases h

theorem eqL_all : ∀ {as bs : List D} {r : Bool}, eqL as bs = some r → ∃ e : Nat → Bool, (∀ (j : Nat) a b, as[j]? = some a → bs[j]? = some b → eqD a b = some (e j)) ∧ (List.range as.length).all e = r
  | [], [], r, h => ⟨fun _ => true, by simp, by simpa [eqL] using h⟩
  | [], _ :: _, _, h => by simp [eqL] at h
  | _ :: _, [], _, h => by simp [eqL] at h
  | a :: as, b :: bs, r, h => by
    simp only [eqL] at h
    split at h
    · rename_i x y hx hy
      cases h
      obtain ⟨e, h1, h2⟩ := eqL_all hy
      refine ⟨fun j => match j with | 0 => x | j + 1 => e j, fun j a' b' ha hb => ?_, ?_⟩
      · cases j with
        | zero => simp at ha hb; subst ha hb; exact hx
        | succ j => simp at ha hb; exact h1 j a' b' ha hb
      · rw [List.length_cons, List.range_succ_eq_map, List.all_cons, List.all_map, ← h2]
        rfl
    · cases h

theorem eqL_places {s : Shared} {X : List Addr} {as bs : List D} {vs ws : List Value} {r : Bool} (h : eqL as bs = some r) (hb : NoneBooked s.heap) (ra : Reps s.heap X as vs) (rb : Reps s.heap X bs ws) :
    vs.toArray.size = ws.toArray.size ∧ ∃ e : Nat → Bool, (∀ j (h1 : j < vs.toArray.size) (h2 : j < ws.toArray.size), EqAt A s vs.toArray[j] ws.toArray[j] (e j)) ∧ (List.range vs.toArray.size).all e = r := by
  have e1 := ra.length; have e2 := rb.length; have e3 := eqL_len h
  obtain ⟨e, h1, h2⟩ := eqL_all h
  refine ⟨by simp; omega, e, fun j hj1 hj2 => ?_, by rw [List.size_toArray, e1]; exact h2⟩
  simp at hj1 hj2
  obtain ⟨a, ha, r1⟩ := ra.get (i := j) (v := vs[j]) (by simp [hj1])
  obtain ⟨b, hb', r2⟩ := rb.get (i := j) (v := ws[j]) (by simp [hj2])
  simpa using eqD_at (A := A) (h1 j a b ha hb') hb r1 r2

theorem Grd.told {mg mb : Str → Option Value} {X : List Addr} {s : Shared} (g : Grd B X s) (G : Base B mg mb) : NoneBooked s.heap := by
  obtain ⟨mc, h1, h2⟩ := G.told
  exact ⟨mc, h1.keeps fun b o e => (g.base b o e).1, h2⟩

theorem CO_ne_ll {mg mb : Str → Option Value} (G : Base B mg mb) {as bs : List D} {r : Bool} {Q : Bool → Prop} (hU : A.units < cLine) (h : eqL as bs = some r) (q : Q (!r)) : CO prog w B A .NotEq (.lst as) (.lst bs) Q := fun X s va vb g ra rb => by
  obtain ⟨a, vs, rfl, ha, hl, hr⟩ := ra.lst_inv; obtain ⟨b, ws, rfl, hb, hl', hr'⟩ := rb.lst_inv
  obtain ⟨hsz, e, he, hall⟩ := eqL_places (A := A.in1) h (g.told G) hr hr'
  refine RcNeAt.lists hl.isList hl'.isList hsz hU he prog w no _ ?_
  exact ⟨Kp.refl _, _, rfl, by rw [hall]; exact q⟩
theorem CO_ne_tt {mg mb : Str → Option Value} (G : Base B mg mb) {as bs : List D} {r : Bool} {Q : Bool → Prop} (hU : A.units < cLine) (h : eqL as bs = some r) (q : Q (!r)) : CO prog w B A .NotEq (.tup as) (.tup bs) Q := fun X s va vb g ra rb => by
  obtain ⟨a, vs, rfl, ha, hl, hr⟩ := ra.tup_inv; obtain ⟨b, ws, rfl, hb, hl', hr'⟩ := rb.tup_inv
  obtain ⟨hsz, e, he, hall⟩ := eqL_places (A := A.in1) h (g.told G) hr hr'
  refine RcNeAt.tuples hl.isTuple hl'.isTuple hU he prog w no _ ?_
  refine ⟨Kp.refl _, _, rfl, ?_⟩
  rw [← hsz, Nat.min_self, hall]
  simpa using q
theorem CO_ne_len {as bs : List D} {Q : Bool → Prop} (hU : A.units < cLine) (h : as.length ≠ bs.length) (q : Q true) : CO prog w B A .NotEq (.lst as) (.lst bs) Q := fun X s va vb g ra rb => by
  obtain ⟨a, vs, rfl, ha, hl, hr⟩ := ra.lst_inv; obtain ⟨b, ws, rfl, hb, hl', hr'⟩ := rb.lst_inv
  refine RcNeAt.lists_lengths hl.isList hl'.isList ?_ hU prog w no _ ?_
  · simp [hr.length, hr'.length]; exact h
  · exact ⟨Kp.refl _, _, rfl, q⟩

-- built-in functions
theorem WC_len_l {ds : List D} {Q : D → Prop} (hfit : ds.length < 2 ^ 30) (q : Q (.int ds.length)) : WC prog w B A (.builtin "len") [.lst ds] Q := fun X s vals g r => by
  obtain ⟨v, r₁, rfl, h1, h2⟩ := r
  cases h2
  obtain ⟨a, vs, rfl, ha, hl, hr⟩ := h1.lst_inv
  refine call_len_list hl.isList (by simp [hr.length]; omega) ?_
  refine ⟨Kp.tok _ _ (by show s.toks ≤ s.toks + 1 + 1; omega), .int ds.length, ?_, q⟩
  have : ((vs.toArray.size : Nat) : Int) = ds.length := by simp [hr.length]
  rw [this]; exact rep_int
end
end Mine

end
section
open PySem PySem.W PySem.Calls PyProof.Rows PySem.SeqAt
namespace Mine

section
variable {prog : Program} {w : World} {B : Shared} {A : Around} {env : Env} {σ : Store}

/-- a first parameter that is a plain local: behind its store a token has been drawn -/
theorem newEnv_pos {M : Model} {E : Value → Shared → Prop} {s : Shared} {scope : Scope} {globals : Addr} {n : Str} {v : Value} {qual : Str} {func : Option Addr} {code : Value} {builtins : Addr} {Q : Env → Shared → Prop}
    (hk : scope.kind = .function) (hn : scope.names.lookup n = some .local)
    (hQ : ∀ env, env = newEnv scope s.heap.objs.size globals (cellsFrom (s.heap.objs.size + 1) scope.names []) qual func code none builtins →
      ∀ s', InCallC s env.locals (bindL env.kindOf [(n, v)] fun _ => none) env.cells (bindC env.kindOf [(n, v)] fun _ => none) s' → 1 ≤ s'.toks → Q env s') :
    wpAny M A (newFunctionEnv scope globals [] [(n, v)] qual func code none builtins) Q E s := by
  simp only [newFunctionEnv, Option.isSome_none, Bool.false_eq_true, if_false]
  refine wpAny_bind (wpAny_alloc ?_)
  refine wpAny_bind (wpAny_layCells _ (fun name kind cells => by cases hkc : kind == NameKind.cell <;> simp [hkc]) _ _ _ _ ?_)
  have ok := cellsFrom_ok scope.names (s.heap.push { cls := .type "frame", data := .dict #[] }) (s.heap.objs.size + 1) [] ⟨fun _ _ hm => (nomatch hm), List.Pairwise.nil⟩ (by rw [Heap.size_push]; exact Nat.le_refl _)
  rw [Heap.size_push] at ok
  rw [show ({ s with heap := s.heap.push { cls := .type "frame", data := .dict #[] } } : Shared).heap.objs.size = s.heap.objs.size + 1 from Heap.size_push ..]
  have x0 : InCallC s (newEnv scope s.heap.objs.size globals (cellsFrom (s.heap.objs.size + 1) scope.names []) qual func code none builtins).locals (fun _ => none) (newEnv scope s.heap.objs.size globals (cellsFrom (s.heap.objs.size + 1) scope.names []) qual func code none builtins).cells (fun _ => none)
      { s with heap := pushCells (s.heap.push { cls := .type "frame", data := .dict #[] }) scope.names } :=
    ⟨⟨⟨_, s.toks, rfl⟩, (Heap.Ns.new s.heap (.type "frame")).keeps (pushCells_keeps _ _), fun b o e => pushCells_keeps _ _ b o (Heap.get?_push_of_some _ e), Nat.le_refl _⟩,
      fun n c hc => (ok.empty n c (PySem.mem_of_lookup hc)).1, ok.apart, fun n c hm => (ok.empty n c hm).2⟩
  rw [List.forIn_cons]
  have hkl : (newEnv scope s.heap.objs.size globals (cellsFrom (s.heap.objs.size + 1) scope.names []) qual func code none builtins).kindOf n = some .local := hn
  have hkk : (newEnv scope s.heap.objs.size globals (cellsFrom (s.heap.objs.size + 1) scope.names []) qual func code none builtins).scope.kind = .function := hk
  refine wpAny_bind (wpAny_bind (wpAny_bind ?_))
  refine wpAny_mono (Q := fun _ s' => 1 ≤ s'.toks ∧ InCallC s (newEnv scope s.heap.objs.size globals (cellsFrom (s.heap.objs.size + 1) scope.names []) qual func code none builtins).locals (fun y => if y = n then some v else none) (newEnv scope s.heap.objs.size globals (cellsFrom (s.heap.objs.size + 1) scope.names []) qual func code none builtins).cells (fun _ => none) s') ?_ ?_ (fun _ _ e => e)
  · refine wpAny_storeName_local hkl x0.toInCall.ns (fun h' hn' hs' => ⟨Nat.le_add_left _ _, ⟨⟨⟨h', _, rfl⟩, hn', fun b o e => ?_, x0.toInCall.fresh⟩, fun k c hc => ?_, x0.apart, x0.above⟩⟩) (by show (scope.kind == .class || (scope.kind == .module && _)) = false; rw [hk]; rfl)
    · exact hs'.extBut b o (Nat.ne_of_lt (Nat.lt_of_lt_of_le (Heap.lt_size e) x0.toInCall.fresh)) (x0.toInCall.keep b o e)
    · exact (x0.cell k c hc).sameBut hs' (Nat.ne_of_gt (x0.above k c (PySem.mem_of_lookup hc)))
  · rintro _ s' ⟨h1, x1⟩
    refine wpAny_pure (wpAny_pure (wpAny_pure (hQ _ rfl s' ?_ h1)))
    unfold bindL bindL bindC bindC
    rw [if_pos hkl, if_pos hkl]
    exact x1

def ndB : List Str → Bool
  | [] => true
  | x :: r => !(r.contains x) && ndB r
theorem ndB_nodup : ∀ {l : List Str}, ndB l = true → l.Nodup
  | [], _ => .nil
  | x :: r, h => by
    simp only [ndB, Bool.and_eq_true, Bool.not_eq_true'] at h
    refine List.nodup_cons.mpr ⟨fun q => ?_, ndB_nodup h.2⟩
    have := h.1
    rw [List.contains_iff_mem.mpr q] at this
    cases this

theorem law_call {mg mb : Str → Option Value} (G : Base B mg mb) {x : Str} {f : Addr} {fd : FuncData} (H : FnAt B mg x f fd) {n : Str} {d : D} {v : Value} {body : List Stmt}
    (hroom : A.depth < recursionLimit) (hbody : fd.body = .stmts body) (hclo : fd.closure = []) (hgl : fd.globals = mainGlobals) (hbl : fd.builtins = builtinsNs)
    (hco : fd.scope.isCoroutine = false) (hgen : fd.scope.isGenerator = false) (hk : fd.scope.kind = .function) (hnd' : ndB ((cellsFrom 0 fd.scope.names []).map (·.1)) = true)
    (hbind : bindArgs fd ⟨[v], []⟩ = pure [(n, v)]) (hn : fd.scope.names.lookup n = some .local) (r : Rep B.heap [] d v)
    (h : ∀ L, WS prog w B (A.deeper (callEnvC fd L f)) (callEnvC fd L f) (paramsAre [n] [d]) body (fun o _ => o = .ret (.bool true))) :
    wpAny (model prog w) A (call (.ref f) [v]) (fun u s' => u = .bool true ∧ (∀ b o, B.heap.get? b = some o → s'.heap.get? b = some o) ∧ s'.gens = B.gens ∧ s'.os = B.os) no B := by
  have hnd := ndB_nodup hnd'
  obtain ⟨o, ho, hdat⟩ := H.obj
  refine wpAny_call (codeAny_call_function hroom ho hdat hco hgen hbody H.code ?_)
  rw [hbind, hclo]
  refine wpAny_pure (newEnv_pos hk hn fun env he s₁ x ht => ?_)
  subst he
  refine ⟨G.nolimit.keeps x.toInCall.keep, codeAny_func ?_⟩
  -- the ground with a token drawn
  have key : ∀ a, a ∈ B.heap.objs.size :: (callEnvC fd B.heap.objs.size f).cells.map (·.2) → B.heap.objs.size ≤ a := fun a ha => by
    rcases List.mem_cons.mp ha with q | q
    · exact Nat.le_of_eq q.symm
    · obtain ⟨⟨n, c⟩, h1, h2⟩ := List.mem_map.mp q
      subst h2
      exact Nat.le_of_lt (x.above n c h1)
  have cellAt : ∀ n c, (callEnvC fd B.heap.objs.size f).cells.lookup n = some c → (n, c) ∈ (callEnvC fd B.heap.objs.size f).cells := fun n c e => PySem.mem_of_lookup e
  have new : ∀ a o, B.heap.get? a = some o → a ∉ (B.heap.objs.size :: (callEnvC fd B.heap.objs.size f).cells.map (·.2)) ++ [] := fun a o e q => by
    rw [List.append_nil] at q
    exact absurd (Heap.lt_size e) (Nat.not_lt.mpr (key a q))
  have J : Inv B (B.heap.objs.size :: (callEnvC fd B.heap.objs.size f).cells.map (·.2)) [] (callEnvC fd B.heap.objs.size f) (paramsAre [n] [d]) s₁ := by
    refine ⟨?_, fun b o e => ⟨x.toInCall.keep b o e, new b o e⟩, fun a ha => ?_, fun _ _ q => (by cases q), hk, hgl, hbl, List.mem_cons_self, fun _ y c e => List.mem_cons_of_mem _ (List.mem_map.mpr ⟨_, cellAt y c e, rfl⟩), fun y c e => Nat.ne_of_gt (x.above y c (cellAt y c e)),
      fun y z c e e' => name_of_addr x.apart (cellAt y c e) (cellAt z c e'), ⟨_, _, x.toInCall.ns, x.cell, fun y sl e => ?_⟩, fun y z ds es e => ?_⟩
    · obtain ⟨h, tk, e⟩ := x.toInCall.same; exact ⟨h, tk, e, by subst e; exact ht⟩
    · rw [List.append_nil] at ha
      rcases List.mem_cons.mp ha with q | q
      · obtain ⟨o, _, _, ho, _⟩ := x.toInCall.ns; subst q; exact ⟨o, ho⟩
      · obtain ⟨⟨n, c⟩, h1, h2⟩ := List.mem_map.mp q
        subst h2
        have e : (callEnvC fd B.heap.objs.size f).cells.lookup n = some c := lookup_of_mem_nodup (cellsFrom_names fd.scope.names 0 (B.heap.objs.size + 1) [] [] rfl ▸ hnd) h1
        obtain ⟨o, ho, _⟩ := x.cell n c e
        exact ⟨o, ho⟩
    · obtain ⟨d', v', h1, h2, h3⟩ := binds_hold (env := callEnvC fd B.heap.objs.size f) (h := B.heap) (X := []) [n] [d] [v] (fun _ => none) (fun _ => none) (fun _ => none) rfl (Reps.one r) (fun y hy => by simp at hy; subst hy; exact .inl hn) (fun _ _ e => by cases e) y sl e
      subst h1
      exact ⟨v', h2, Rep.mono (fun a o _ e => ⟨x.toInCall.keep a o e, new a o e⟩) h3⟩
    · obtain ⟨d', v', h1, _⟩ := binds_hold (env := callEnvC fd B.heap.objs.size f) (h := B.heap) (X := []) [n] [d] [v] (fun _ => none) (fun _ => none) (fun _ => none) rfl (Reps.one r) (fun y hy => by simp at hy; subst hy; exact .inl hn) (fun _ _ e => by cases e) y _ e
      cases h1
  refine wpAny_mono (h B.heap.objs.size _ [] s₁ J) (fun fl s' ⟨O', o, σ', x', i', fl', q⟩ => ?_) fun _ _ f => f.elim
  subst q
  obtain ⟨v', rfl, rv⟩ := fl'
  cases rv.bool_inv
  obtain ⟨h, tk, e, _⟩ := i'.same
  exact ⟨rfl, fun b o e => (i'.base b o e).1, by rw [e], by rw [e]⟩

/-- room for k more calls -/
structure Rm (k : Nat) (A : Around) : Prop where
  handled : A.handled = none
  depth : A.depth + k ≤ 900
  units : A.units + 4 * k ≤ 9000
theorem Rm.deeper {k : Nat} {A : Around} (r : Rm (k + 1) A) (env : Env) : Rm k (A.deeper env) := ⟨r.handled, by have := r.depth; show A.depth + 1 + k ≤ 900; omega, by have := r.units; show A.units + 3 + 4 * k ≤ 9000; omega⟩
theorem Rm.room {k : Nat} {A : Around} (r : Rm k A) : A.depth < recursionLimit := by have := r.depth; unfold recursionLimit; omega
theorem Rm.cl {k : Nat} {A : Around} (r : Rm k A) : A.units < cLine := by have := r.units; unfold cLine; omega
theorem Rm.caller : Rm 20 callerA := ⟨rfl, by decide, by decide⟩

/-- a def by its parts -/
theorem WC_doc {mg mb : Str → Option Value} (G : Base B mg mb) {x : Str} {f : Addr} {o : Obj} {name : Str} {params : Arguments} {scope : Scope} {pm cd doc : Value} {names : List Str} {args : List D} {body : List Stmt} {Q : D → Prop}
    (h1 : mg x = some (.ref f)) (h2 : B.heap.get? f = some o) (h3 : o.data = .func (docDef name params body scope pm cd doc)) (h4 : B.heap.CodeRec cd name)
    (hroom : A.depth < recursionLimit) (hl : args.length = names.length) (hbind : ∀ vals : List Value, vals.length = names.length → bindArgs (docDef name params body scope pm cd doc) ⟨vals, []⟩ = pure (names.zip vals))
    (hkind : ∀ L, ∀ y ∈ names, (callEnvC (docDef name params body scope pm cd doc) L f).kindOf y = some .local ∨ ((callEnvC (docDef name params body scope pm cd doc) L f).kindOf y = some .cell ∧ ((callEnvC (docDef name params body scope pm cd doc) L f).cells.lookup y).isSome = true))
    (h : ∀ L, WS prog w B (A.deeper (callEnvC (docDef name params body scope pm cd doc) L f)) (callEnvC (docDef name params body scope pm cd doc) L f) (paramsAre names args) body (fun o _ => match o with | .ret d => Q d | _ => False))
    (hco : scope.isCoroutine = false := by rfl) (hgen : scope.isGenerator = false := by rfl) (hk : scope.kind = .function := by rfl) (hnd : ndB ((cellsFrom 0 scope.names []).map (·.1)) = true := by rfl) : WC prog w B A (.ref f) args Q :=
  WC_def G ⟨h1, ⟨o, h2, h3⟩, h4⟩ hroom rfl rfl rfl rfl hco hgen hk (ndB_nodup hnd) hl hbind hkind h

theorem LoopP_inv {target : Expr} {body : List Stmt} {Q : Out → Store → Prop} (J : Nat → Store → Prop) : ∀ (ds : List D) (n : Nat) (σ : Store),
    (∀ i d σ, n ≤ i → ds[i - n]? = some d → J i σ → ∃ σ', WA prog w B A env σ target d σ' ∧ WS prog w B A env σ' body (fun o σ'' => o = .next ∧ J (i + 1) σ'')) → J n σ → (∀ σ, J (n + ds.length) σ → Q .next σ) → LoopP prog w B A env target body Q ds σ
  | [], n, σ, _, h0, hQ => hQ σ h0
  | d :: ds, n, σ, h, h0, hQ => by
    obtain ⟨σ', wa, ws⟩ := h n d σ (Nat.le_refl _) (by simp) h0
    refine ⟨σ', wa, WS.mono ws fun o σ'' ⟨ho, hj⟩ => ?_⟩
    subst ho
    refine LoopP_inv J ds (n + 1) σ'' (fun i e τ hi he hj => h i e τ (by omega) ?_ hj) hj (fun τ hj => hQ τ ?_)
    · rw [show i - n = (i - (n + 1)) + 1 by omega]; simpa using he
    · rw [List.length_cons, show n + (ds.length + 1) = n + 1 + ds.length by omega]; exact hj

/-- a loop by what holds of the store behind each turn -/
theorem LoopP_all {target : Expr} {body : List Stmt} {Q : Out → Store → Prop} (J : Nat → Store → Prop) {ds : List D} {σ : Store}
    (h : ∀ i d σ, ds[i]? = some d → J i σ → ∃ σ', WA prog w B A env σ target d σ' ∧ WS prog w B A env σ' body (fun o σ'' => o = .next ∧ J (i + 1) σ'')) (h0 : J 0 σ) (hQ : ∀ σ, J ds.length σ → Q .next σ) : LoopP prog w B A env target body Q ds σ :=
  LoopP_inv J ds 0 σ (fun i d σ _ hd hj => h i d σ (by simpa using hd) hj) h0 (fun σ hj => hQ σ (by simpa using hj))

theorem well_ints {P : Params} {h : Heap} {a : Addr} : ∀ {ns : List Int}, Well P h (.ref a) (ofPy (PyData.list (ns.map PyData.int))) → Rep h [] (.lst (ns.map D.int)) (.ref a) := by
  intro ns hw
  have all : ∀ (ns : List Int) (vs : List Value), WellAll P h vs (ofPys (ns.map PyData.int)) → Reps h [] (ns.map D.int) vs := by
    intro ns
    induction ns with
    | nil => intro vs hv; cases hv; rfl
    | cons n r ih =>
      intro vs hv
      cases hv with
      | cons h1 h2 => cases h1; exact ⟨_, _, rfl, rep_int, ih _ h2⟩
  cases hw with
  | list ho hall => exact rep_lst (by simp) ⟨0, ho⟩ (all ns _ hall)

theorem good_true {l : OpenLaw} {cl : Str → Option Addr} {mean : ExcName → Option Value} {args : List WData} {s₁ s' : Shared} (hg : s₁.gens = #[])
    (hk : ∀ b o, s₁.heap.get? b = some o → s'.heap.get? b = some o) (h1 : s'.gens = s₁.gens) (h2 : s'.os = s₁.os) : GoodWG l.row.claim cl mean args s₁ (.ok (.ret (.bool true))) s' := by
  refine GoodW.toG ⟨.inl ⟨.bool true, .bool true, [], rfl, fun cls => rfl, .bool true, ?_, fun _ => ⟨.nil, fun _ h => by cases h⟩⟩, hk, h2, h1.trans hg⟩
  exact postW_of rfl (w_eq_bool (w_res rfl) w_lit) rfl
end
end Mine

end
section
open PySem PySem.W PySem.Calls PyProof.Rows PySem.SeqAt
namespace Mine
section
variable {prog : Program} {w : World} {B : Shared} {A : Around} {env : Env} {σ : Store}

theorem ns_none_of {K : Frag} {h : Heap} {ns : Addr} {mg : Str → Option Value} {n : Str} (X : K.In h) (G : h.Ns ns mg) (e : nsIn K ns n = some none) : mg n = none := by
  obtain ⟨o, es, ep, ho, hd, _, hf⟩ := G
  unfold nsIn at e
  split at e
  · rename_i c d es' n' sl q
    have := X _ _ q
    rw [ho] at this
    cases this
    cases hd
    split at e
    · cases e
    · rename_i he
      rw [← hf]
      unfold nsFind findBy
      rw [← Array.find?_toList, he]
      rfl
  · cases e

/-- the ground of an opened row -/
theorem base_of {K : Frag} {s : Shared} {mg mb : Str → Option Value} (X : K.In s.heap) (h1 : s.heap.Ns mainGlobals mg) (h2 : s.heap.Ns builtinsNs mb) (h3 : ∀ x : Str, x ≠ "__name__" → mb x = bootBuiltins x) (h4 : s.heap.NoLimit) (e : nsIn K cStatics sharingNotToldKey = some none) : Base s mg mb :=
  ⟨h1, h2, h3, h4, by obtain ⟨mc, h1, h2⟩ := h4; exact ⟨mc, h1, ns_none_of X h1 e⟩⟩

end
end Mine

end
section
open PySem PySem.W PySem.Calls PyProof.Rows PySem.SeqAt
namespace Mine
section
variable {prog : Program} {w : World} {B : Shared} {A : Around} {env : Env} {σ : Store}

theorem WEs_cons {e : Expr} {rest : List Expr} {Q : List D → Prop} (h : WE prog w B A env σ e (fun d => WEs prog w B A env σ rest (fun ds => Q (d :: ds)))) : WEs prog w B A env σ (e :: rest) Q := h
theorem WEs_nil {Q : List D → Prop} (h : Q []) : WEs prog w B A env σ [] Q := h
theorem WP_some {e : Expr} {Q : Option Int → Prop} (h : WE prog w B A env σ e (fun d => ∃ i, d = .int i ∧ Q (some i))) : WP prog w B A env σ (some e) Q := h
theorem WP_none {Q : Option Int → Prop} (h : Q none) : WP prog w B A env σ none Q := h

theorem WE_call_doc {mg mb : Str → Option Value} (G : Base B mg mb) {x : Str} {p pos : Pos} {f : Addr} {o : Obj} {name : Str} {params : Arguments} {body : List Stmt} {scope : Scope} {pm cd doc : Value} {e : Expr} {args : List Expr} {Q : D → Prop}
    (h1 : mg x = some (.ref f)) (h2 : B.heap.get? f = some o) (h3 : o.data = .func (docDef name params body scope pm cd doc)) (h4 : B.heap.CodeRec cd name)
    (hx : env.kindOf x = some .globalImplicit) (h : WEs prog w B A env σ (e :: args) (fun ds => WC prog w B A (.ref f) ds Q))
    (hd : (x == ("__debug__" : Str)) = false := by decide) (hs : noStar (e :: args) = true := by rfl) : WE prog w B A env σ (.Call (.Name x p) (e :: args) [] pos) Q :=
  WE_call_def G ⟨h1, ⟨o, h2, h3⟩, h4⟩ hx h hd hs

/-- by a positive number -/
theorem BO_mod_p {a b : Int} {Q : D → Prop} (hb : 0 < b) (q : Q (.int (a % b))) : BO prog w A .Mod (.int a) (.int b) Q :=
  BO_mod_ii (by omega) (by rw [Int.fmod_eq_emod_of_nonneg _ (by omega)]; exact q)
theorem log2_small {b : Int} (h1 : -(2 ^ 200) < b) (h2 : b < 2 ^ 200) : b.natAbs.log2 < 9000 := by
  rcases Nat.eq_zero_or_pos b.natAbs with h0 | hp
  · rw [h0]; decide
  · have : b.natAbs < 2 ^ 200 := by omega
    exact (Nat.log2_lt (Nat.ne_of_gt hp)).mpr (Nat.lt_trans this (Nat.pow_lt_pow_right (by decide) (by decide)))
theorem BO_div_p {a b : Int} {Q : D → Prop} (hb : 0 < b) (hb' : b < 2 ^ 200) (q : Q (.int (a / b))) : BO prog w A .FloorDiv (.int a) (.int b) Q :=
  BO_floordiv_ii (by omega) (log2_small (by omega) hb') (by rw [Int.fdiv_eq_ediv_of_nonneg _ (by omega)]; exact q)

theorem mulL {a b : Int} (h1 : -(2 ^ 64) < a) (h2 : a < 2 ^ 64) : IntMulOk a b := IntMulOk.of_left (intBits_le_64 h1 h2)
theorem cut_map {ns : List Int} {lo hi : Option Int} : cut (ns.map D.int) lo hi = (cut ns lo hi).map D.int := by
  simp [cut, List.map_drop, List.map_take]
theorem cut_length_le {α : Type} (xs : List α) (lo hi : Option Int) : (cut xs lo hi).length ≤ xs.length := by
  simp only [cut, List.length_take, List.length_drop]; omega

theorem rangeD_get {a b c : Int} {i : Nat} {d : D} (h : (rangeD a b c)[i]? = some d) : d = .int (a + i * c) ∧ i < (Builtin.Range.rangeSize a b c).toNat := by
  unfold rangeD at h
  rw [List.getElem?_map] at h
  cases hi : (List.range (Builtin.Range.rangeSize a b c).toNat)[i]? with
  | none => rw [hi] at h; cases h
  | some j =>
    rw [hi] at h
    have hlt : i < (Builtin.Range.rangeSize a b c).toNat := by
      rcases Nat.lt_or_ge i (Builtin.Range.rangeSize a b c).toNat with q | q
      · exact q
      · rw [List.getElem?_eq_none (by simpa using q)] at hi; cases hi
    rw [List.getElem?_range hlt] at hi
    cases hi
    cases h
    exact ⟨rfl, hlt⟩
theorem Rm.less {j k : Nat} (r : Rm k A) (h : j ≤ k := by omega) : Rm j A := ⟨r.handled, by have := r.depth; omega, by have := r.units; omega⟩
theorem small1023 {a : Int} (h1 : -(2 ^ 200) < a) (h2 : a < 2 ^ 200) : a.natAbs < 2 ^ 1023 :=
  Nat.lt_of_lt_of_le (m := 2 ^ 200) (by omega) (Nat.pow_le_pow_right (by decide) (by decide))
theorem BO_div_s {a b : Int} {Q : D → Prop} (hA : A.handled = none) (h1 : -(2 ^ 200) < a) (h2 : a < 2 ^ 200) (hb : b ≠ 0) (q : Q (.flt (divI a b))) : BO prog w A .Div (.int a) (.int b) Q := BO_div_ii hA (small1023 h1 h2) hb q
end
end Mine

end
section
open PySem PySem.W PySem.Calls PyProof.Rows PySem.SeqAt
namespace Mine
section
variable {prog : Program} {w : World} {B : Shared} {A : Around} {env : Env} {σ : Store}

theorem Store.set_same {x : Str} {sl : Slot} (h : σ x = some sl) : σ.set x sl = σ := by
  funext y
  unfold Store.set
  split
  · rename_i e; rw [e, h]
  · rfl

/-- `if t: x = e`, the value by the test -/
theorem WX_if_put {t e : Expr} {x : Str} {p pos pos' : Pos} {u v : UInt64} {b : Bool} {Q : Out → Store → Prop} (hx : canStore env x) (h0 : σ x = some (.dat (.flt u)))
    (ht : WT prog w B A env σ t (fun c => c = b)) (he : WE prog w B A env σ e (fun d => d = .flt v)) (q : Q .next (σ.set x (.dat (.flt (if b = true then v else u)))))
    (hs : swapsWith e (some (.Name x p)) pos.line env = pure false := by rfl) : WX prog w B A env σ (.If t [.Assign [.Name x p] e pos] [] pos') Q := by
  refine WX_if (WT.mono ht fun c hc => ?_)
  subst hc
  cases c with
  | true =>
    simp only [if_true] at q ⊢
    refine WS_cons (WX_assign hx (WE.mono he fun d hd => ?_) hs)
    subst hd
    exact WS_nil q
  | false =>
    simp only [Bool.false_eq_true, if_false] at q ⊢
    refine WS_nil ?_
    rw [Store.set_same h0] at q
    exact q

end
end Mine

end
section
open PySem PySem.W PySem.Calls PyProof.Rows PySem.SeqAt
namespace Mine
section
variable {prog : Program} {w : World} {B : Shared} {A : Around} {env : Env} {σ : Store}

end
end Mine

end
section
open PySem PySem.W PySem.Calls PyProof.Rows PySem.SeqAt
namespace Mine
section
variable {prog : Program} {w : World} {B : Shared} {A : Around} {env : Env} {σ : Store}

theorem bits2 : Builtin.Int.intBits 2 = 2 := by decide
theorem BO_pow2 {b : Int} {Q : D → Prop} (h0 : 0 ≤ b) (h1 : b ≤ 2000) (q : Q (.int (2 ^ b.toNat))) : BO prog w A .Pow (.int 2) (.int b) Q :=
  BO_pow_ii h0 (by rw [bits2]; omega) q
end
end Mine

end
section
open PySem PySem.W PySem.Calls PyProof.Rows PySem.SeqAt
namespace Mine
section
variable {prog : Program} {w : World} {B : Shared} {A : Around} {env : Env} {σ : Store}

end
end Mine

end
section
open PySem PySem.W PySem.Calls PyProof.Rows PySem.SeqAt
namespace Mine
section
variable {prog : Program} {w : World} {B : Shared} {A : Around} {env : Env} {σ : Store}

def isFlt (c : UInt64) : Option (Option Value) → Bool
  | some (some (.float x t)) => x == c && t != 0
  | _ => false
/-- a global that is a float -/
theorem mg_flt {K : Frag} {h : Heap} {mg : Str → Option Value} {n : Str} {c : UInt64} (X : K.In h) (G : h.Ns mainGlobals mg) (e : isFlt c (nsIn K mainGlobals n) = true) : ∃ t, mg n = some (.float c t) ∧ t ≠ 0 := by
  cases hn : nsIn K mainGlobals n with
  | none => rw [hn] at e; cases e
  | some o =>
    cases o with
    | none => rw [hn] at e; cases e
    | some v =>
      rw [hn] at e
      cases v with
      | float x t =>
        simp only [isFlt, Bool.and_eq_true, beq_iff_eq, bne_iff_ne] at e
        obtain ⟨rfl, ht⟩ := e
        exact ⟨t, mg_of X G hn, ht⟩
      | _ => cases e
end
end Mine

end
section
open PySem PySem.W PySem.Calls PyProof.Rows PySem.SeqAt
namespace Mine
section
variable {prog : Program} {w : World} {B : Shared} {A : Around} {env : Env} {σ : Store}

end
end Mine

end
section
open PySem PySem.W PySem.Calls PyProof.Rows PySem.SeqAt
namespace Mine
section
variable {prog : Program} {w : World} {B : Shared} {A : Around} {env : Env} {σ : Store}

/-- int(x) -/
def truncF (x : UInt64) : Int := match Float64.decode x with
  | .fin s m e => Float64.truncOf s m e
  | _ => 0
theorem WC_int_f {x : UInt64} {Q : D → Prop} (hx : Float64.isFinite x = true) (q : Q (.int (truncF x))) : WC prog w B A (.type "int") [.flt x] Q := fun X s vals g r => by
  obtain ⟨v, r₁, rfl, h1, h2⟩ := r
  cases h2
  obtain ⟨t, rfl, ht⟩ := h1.flt_inv
  unfold Float64.isFinite at hx
  cases hd : Float64.decode x with
  | fin sg m e =>
    refine call_int_float hd ⟨Kp.tok _ _, _, rep_int, ?_⟩
    unfold truncF at q; rw [hd] at q; exact q
  | _ => rw [hd] at hx; cases hx
end
end Mine

end
section
open PySem PySem.W PySem.Calls PyProof.Rows PySem.SeqAt
namespace Mine
section
variable {prog : Program} {w : World} {B : Shared} {A : Around} {env : Env} {σ : Store}

end
end Mine

end
section
open PySem PySem.W PySem.Calls PyProof.Rows PySem.SeqAt
namespace Mine
section
variable {prog : Program} {w : World} {B : Shared} {A : Around} {env : Env} {σ : Store}

end
end Mine

end
section
open PySem PySem.Float64
namespace Mine

/-- the scale of the smallest float -/
def S : Nat := 2 ^ 1074
theorem S_pos : (0 : Rat) < (S : Rat) := Rat.natCast_pos.mpr (Nat.two_pow_pos _)
theorem S_ne : (S : Rat) ≠ 0 := fun h => by have := S_pos; rw [h] at this; exact Rat.lt_irrefl this
/-- a float's value -/
def fv (x : UInt64) : Rat := (val x : Rat) / (S : Rat)
theorem fv_S (x : UInt64) : fv x * S = (val x : Rat) := Rat.div_mul_cancel S_ne
abbrev FF (x : UInt64) : Prop := Float64.isFinite x = true
theorem FF.dec {x : UInt64} (h : FF x) : ∃ a m e, decode x = .fin a m e := by
  unfold FF isFinite at h
  cases hd : decode x with
  | fin a m e => exact ⟨a, m, e, rfl⟩
  | _ => rw [hd] at h; cases h
theorem FF.of {x : UInt64} {a : Bool} {m : Nat} {e : Int} (h : decode x = .fin a m e) : FF x := by unfold FF isFinite; rw [h]

/-- what a float can say (but for the ceiling) -/
def Rp (f : Rat) : Prop := ∃ (m : Int) (k : Nat), m.natAbs ≤ 2 ^ 53 ∧ f * S = m * (2 ^ k : Nat)

theorem V_repr : ∀ (k m : Nat), m ≤ 2 ^ 53 → ∃ t, V t = m * 2 ^ k
  | 0, m, h => ⟨_, V_at (k := 0) h (.inr rfl)⟩
  | k + 1, m, h => by
    by_cases h2 : 2 ^ 52 ≤ m
    · exact ⟨_, V_at h (.inl h2)⟩
    · obtain ⟨t, ht⟩ := V_repr k (2 * m) (by omega)
      exact ⟨t, by rw [ht, Nat.pow_succ, Nat.mul_comm 2 m, Nat.mul_assoc, Nat.mul_comm 2]⟩

theorem sgn_cast (a : Bool) (m : Nat) : ((sgn a m : Int) : Rat) = if a then -(m : Rat) else m := by
  cases a
  · rfl
  · show ((-(m : Int) : Int) : Rat) = -(m : Rat)
    rw [Rat.intCast_neg]; rfl

theorem Rp_fv {x : UInt64} (h : FF x) : Rp (fv x) := by
  obtain ⟨a, m, e, hd⟩ := h.dec
  refine ⟨sgn a m, (e + 1074).toNat, ?_, ?_⟩
  · rw [sgn_natAbs]; exact Nat.le_of_lt (decode_le hd).1
  · rw [fv_S, val_eq hd, sgn_mul]
    rw [Rat.intCast_mul]; rfl

/-- r is what q is rounded to -/
def Rd (r : UInt64) (q : Rat) : Prop := ∃ (neg : Bool) (W D : Nat), 0 < D ∧ Right r neg W D ∧ q * ((D : Rat) * S) = ((sgn neg W : Int) : Rat)

theorem natAbs_sgn (i : Int) : sgn (decide (i < 0)) i.natAbs = i := by unfold sgn; split <;> rename_i h <;> simp at h <;> omega

theorem zero_right (neg : Bool) : Right (zero neg) neg 0 1 := by
  refine ⟨0, rfl, by unfold infMag; omega, ⟨fun h => by unfold infMag at h; omega, fun h => ?_⟩, fun _ t' => ⟨by rw [V_zero]; simp [Float64.dist], fun h1 h2 => rfl⟩⟩
  have : 0 < (2 ^ 54 - 1) * 2 ^ 2045 := Nat.mul_pos (by decide) (Nat.two_pow_pos _)
  omega

theorem Rd_sum {r : UInt64} {i : Int} {neg : Bool} (h0 : i = 0 → r = zero neg) (h1 : i ≠ 0 → Right r (decide (i < 0)) i.natAbs 1) : Rd r ((i : Rat) / S) := by
  by_cases h : i = 0
  · refine ⟨neg, 0, 1, by decide, by rw [h0 h]; exact zero_right neg, ?_⟩
    subst h
    have : sgn neg 0 = 0 := by unfold sgn; cases neg <;> rfl
    rw [this]
    simp [Rat.div_def]
  · refine ⟨_, _, 1, by decide, h1 h, ?_⟩
    rw [natAbs_sgn]
    show (i : Rat) / S * (((1 : Nat) : Rat) * S) = i
    rw [show ((1 : Nat) : Rat) = 1 from rfl, Rat.one_mul, Rat.div_mul_cancel S_ne]

theorem Rd_add {x y : UInt64} (hx : FF x) (hy : FF y) : Rd (Float64.add x y) (fv x + fv y) := by
  obtain ⟨a, m, e, h1⟩ := hx.dec; obtain ⟨b, k, f, h2⟩ := hy.dec
  have h := add_right h1 h2
  have := Rd_sum h.1 h.2
  rwa [show ((val x + val y : Int) : Rat) / S = fv x + fv y by unfold fv; rw [Rat.intCast_add]; have := S_ne; grind] at this
theorem Rd_sub {x y : UInt64} (hx : FF x) (hy : FF y) : Rd (Float64.sub x y) (fv x - fv y) := by
  obtain ⟨a, m, e, h1⟩ := hx.dec; obtain ⟨b, k, f, h2⟩ := hy.dec
  have h := sub_right h1 h2
  have := Rd_sum h.1 h.2
  rwa [show ((val x - val y : Int) : Rat) / S = fv x - fv y by unfold fv; rw [Rat.intCast_sub]; have := S_ne; grind] at this

theorem sgn_xor (a b : Bool) (m k : Nat) : sgn (a != b) (m * k) = sgn a m * sgn b k := by
  unfold sgn; cases a <;> cases b <;> simp <;> grind
theorem val_sgn {x : UInt64} {a : Bool} {m : Nat} {e : Int} (h : decode x = .fin a m e) : sgn a (val x).natAbs = val x := by rw [val_natAbs h, val_eq h]

theorem Rd_mul {x y : UInt64} (hx : FF x) (hy : FF y) : Rd (Float64.mul x y) (fv x * fv y) := by
  obtain ⟨a, m, e, h1⟩ := hx.dec; obtain ⟨b, k, f, h2⟩ := hy.dec
  refine ⟨_, _, _, Nat.two_pow_pos _, mul_right h1 h2, ?_⟩
  rw [sgn_xor, val_sgn h1, val_sgn h2, Rat.intCast_mul, ← fv_S x, ← fv_S y]
  show fv x * fv y * ((S : Rat) * S) = _
  grind
theorem Rd_frac {a b : Int} (hb : b ≠ 0) : Rd (divI a b) ((a : Rat) / b) := by
  refine ⟨_, a.natAbs * 2 ^ 1074, b.natAbs, by omega, ofFrac_right (by omega) rfl (by omega), ?_⟩
  have hb' : (b : Rat) ≠ 0 := fun h => hb (Rat.intCast_eq_zero_iff.mp h)
  have h1 : ((b.natAbs : Nat) : Rat) = if b < 0 then -(b : Rat) else b := by
    rw [← Rat.intCast_natCast]
    split
    · rw [show ((b.natAbs : Nat) : Int) = -b by omega, Rat.intCast_neg]
    · rw [show ((b.natAbs : Nat) : Int) = b by omega]
  have h2 : ((a.natAbs : Nat) : Rat) = if a < 0 then -(a : Rat) else a := by
    rw [← Rat.intCast_natCast]
    split
    · rw [show ((a.natAbs : Nat) : Int) = -a by omega, Rat.intCast_neg]
    · rw [show ((a.natAbs : Nat) : Int) = a by omega]
  rw [sgn_cast, Rat.natCast_mul, h1, h2, show ((2 ^ 1074 : Nat) : Rat) = S from rfl]
  have : (a : Rat) / b * b = a := Rat.div_mul_cancel hb'
  by_cases ha : a < 0 <;> by_cases hb : b < 0 <;> simp [ha, hb] <;> grind
theorem Rd_int (a : Int) : Rd (Float64.ofInt a) (a : Rat) := by
  refine ⟨_, _, 1, by decide, ofInt_right a, ?_⟩
  rw [show sgn (decide (a < 0)) (a.natAbs * 2 ^ 1074) = a * (2 ^ 1074 : Nat) by rw [sgn_mul, natAbs_sgn]]
  rw [Rat.intCast_mul]
  show (a : Rat) * (((1 : Nat) : Rat) * S) = _
  rw [show ((1 : Nat) : Rat) = 1 from rfl, Rat.one_mul]
  rfl
end Mine

end
section
open PySem PySem.Float64
namespace Mine

theorem cast_le {a b : Nat} (h : a ≤ b) : (a : Rat) ≤ b := Rat.natCast_le_natCast.mpr h
theorem icast_le {a b : Int} (h : a ≤ b) : (a : Rat) ≤ b := Rat.intCast_le_intCast.mpr h
theorem pow_cast (n : Nat) : ((2 ^ n : Nat) : Rat) = (2 : Rat) ^ n := by rw [Rat.natCast_pow]; rfl

theorem not_fin_inf (neg : Bool) : Float64.isFinite (pack neg infMag) = false := by
  cases neg <;> decide +kernel

theorem Rd.fin {r : UInt64} {q : Rat} (h : Rd r q) (h1 : -(2 : Rat) ^ 1000 ≤ q) (h2 : q ≤ (2 : Rat) ^ 1000) : FF r := by
  obtain ⟨neg, W, D, hD, ⟨t, e, hle, hinf, hn⟩, hq⟩ := h
  have hu : (0 : Rat) < (D : Rat) * S := Rat.mul_pos (Rat.natCast_pos.mpr hD) S_pos
  have hW : (W : Rat) ≤ (2 : Rat) ^ 1000 * ((D : Rat) * S) := by
    rw [sgn_cast] at hq
    have a1 := Rat.mul_le_mul_of_nonneg_right h2 (Rat.le_of_lt hu)
    have a2 := Rat.mul_le_mul_of_nonneg_right h1 (Rat.le_of_lt hu)
    cases neg <;> simp at hq <;> grind
  have hWn : W ≤ 2 ^ 1000 * (D * 2 ^ 1074) := by
    apply Rat.natCast_le_natCast.mp
    rw [Rat.natCast_mul, Rat.natCast_mul, pow_cast 1000]
    exact hW
  have ht : t ≠ infMag := fun z => by
    have h3 := hinf.mp z
    have e1 : 2 ^ 1000 * (D * 2 ^ 1074) = D * 2 ^ 2074 := by rw [Nat.mul_left_comm, ← Nat.pow_add]
    have e2 : (2 ^ 54 - 1) * 2 ^ 2045 = (2 ^ 54 - 1) * 2 ^ 2045 := rfl
    have e3 : (2 : Nat) ^ 2074 = 2 ^ 29 * 2 ^ 2045 := by rw [← Nat.pow_add]
    rw [e1, e3] at hWn
    have h4 : D * ((2 ^ 54 - 1) * 2 ^ 2045) ≤ 2 * (D * (2 ^ 29 * 2 ^ 2045)) := Nat.le_trans h3 (Nat.mul_le_mul_left 2 hWn)
    have hp : 0 < D * 2 ^ 2045 := Nat.mul_pos hD (Nat.two_pow_pos _)
    have e4 : D * ((2 ^ 54 - 1) * 2 ^ 2045) = (2 ^ 54 - 1) * (D * 2 ^ 2045) := Nat.mul_left_comm ..
    have e5 : D * (2 ^ 29 * 2 ^ 2045) = 2 ^ 29 * (D * 2 ^ 2045) := Nat.mul_left_comm ..
    rw [e4, e5] at h4
    generalize D * 2 ^ 2045 = z at *
    omega
  obtain ⟨m, e', hd, _⟩ := decode_pack neg (t := t) (by omega)
  rw [e]; exact FF.of hd

theorem dist_cases {x y z : Nat} (h : Float64.dist x y ≤ Float64.dist x z) : ((x : Rat) - y ≤ x - z ∧ (y : Rat) - x ≤ x - z ∧ (z : Rat) ≤ x) ∨ ((x : Rat) - y ≤ z - x ∧ (y : Rat) - x ≤ z - x ∧ (x : Rat) ≤ z) := by
  unfold Float64.dist at h
  have key : ((x : Int) - y ≤ x - z ∧ (y : Int) - x ≤ x - z ∧ (z : Int) ≤ x) ∨ ((x : Int) - y ≤ z - x ∧ (y : Int) - x ≤ z - x ∧ (x : Int) ≤ z) := by omega
  rcases key with ⟨h1, h2, h3⟩ | ⟨h1, h2, h3⟩
  · left
    have h1 := icast_le h1; have h2 := icast_le h2; have h3 := icast_le h3
    simp only [Rat.intCast_sub, Rat.intCast_natCast] at h1 h2 h3
    exact ⟨h1, h2, h3⟩
  · right
    have h1 := icast_le h1; have h2 := icast_le h2; have h3 := icast_le h3
    simp only [Rat.intCast_sub, Rat.intCast_natCast] at h1 h2 h3
    exact ⟨h1, h2, h3⟩

/-- what a finite rounding is -/
theorem Rd.parts {r : UInt64} {q : Rat} (h : Rd r q) (hf : FF r) : ∃ (neg : Bool) (W D t : Nat), 0 < D ∧ (0 : Rat) < (D : Rat) * S ∧ q * ((D : Rat) * S) = (if neg then -(W : Rat) else W) ∧ fv r * ((D : Rat) * S) = (if neg then -((D * V t : Nat) : Rat) else ((D * V t : Nat) : Rat)) ∧
    ∀ t', Float64.dist W (D * V t) ≤ Float64.dist W (D * V t') ∧ (V t' ≠ V t → Float64.dist W (D * V t) = Float64.dist W (D * V t') → t % 2 = 0) := by
  obtain ⟨neg, W, D, hD, ⟨t, e, hle, hinf, hn⟩, hq⟩ := h
  have ht : t < infMag := by
    rcases Nat.lt_or_ge t infMag with z | z
    · exact z
    · have : t = infMag := by omega
      subst this
      rw [e] at hf
      have := not_fin_inf neg
      unfold FF at hf
      rw [hf] at this; cases this
  refine ⟨neg, W, D, t, hD, Rat.mul_pos (Rat.natCast_pos.mpr hD) S_pos, by rw [hq, sgn_cast], ?_, hn ht⟩
  have hv : fv r * S = if neg then -(V t : Rat) else V t := by rw [fv_S, e, val_pack neg ht, sgn_cast]
  rw [Rat.natCast_mul]
  cases neg <;> simp at hv ⊢ <;> grind

theorem Rd.near {r : UInt64} {q : Rat} (h : Rd r q) (hf : FF r) {f d : Rat} (hr : Rp f) (h1 : f - q ≤ d) (h2 : q - f ≤ d) : fv r - q ≤ d ∧ q - fv r ≤ d := by
  obtain ⟨neg, W, D, t, hD, hu, hq, hv, hn⟩ := h.parts hf
  obtain ⟨m, k, hm, hf'⟩ := hr
  obtain ⟨t', ht'⟩ := V_repr k m.natAbs hm
  have hd := dist_cases (hn t').1
  have hfu : f * ((D : Rat) * S) = if m < 0 then -((D * V t' : Nat) : Rat) else ((D * V t' : Nat) : Rat) := by
    rw [ht', Rat.natCast_mul, Rat.natCast_mul]
    have e : ((m.natAbs : Nat) : Rat) = if m < 0 then -(m : Rat) else m := by
      rw [← Rat.intCast_natCast]
      split
      · rw [show ((m.natAbs : Nat) : Int) = -m by omega, Rat.intCast_neg]
      · rw [show ((m.natAbs : Nat) : Int) = m by omega]
    rw [e]
    split <;> grind
  have a1 := Rat.mul_le_mul_of_nonneg_right h1 (Rat.le_of_lt hu)
  have a2 := Rat.mul_le_mul_of_nonneg_right h2 (Rat.le_of_lt hu)
  have p1 : (0 : Rat) ≤ W := Rat.natCast_nonneg
  have p2 : (0 : Rat) ≤ ((D * V t' : Nat) : Rat) := Rat.natCast_nonneg
  generalize ((D * V t' : Nat) : Rat) = z at *
  generalize ((D * V t : Nat) : Rat) = y at *
  generalize (W : Rat) = x at *
  have key : (fv r - q) * ((D : Rat) * S) ≤ d * ((D : Rat) * S) ∧ (q - fv r) * ((D : Rat) * S) ≤ d * ((D : Rat) * S) := by
    generalize (D : Rat) * S = u at *
    cases neg <;> by_cases hm : m < 0 <;> simp [hm] at hq hv hfu <;> rcases hd with ⟨h3, h4, h5⟩ | ⟨h3, h4, h5⟩ <;> constructor <;> grind
  exact ⟨Rat.le_of_mul_le_mul_right key.1 hu, Rat.le_of_mul_le_mul_right key.2 hu⟩

theorem Rd.exact {r : UInt64} {q : Rat} (h : Rd r q) (hf : FF r) (hq : Rp q) : fv r = q := by
  have := h.near hf (d := 0) hq (by grind) (by grind)
  grind
theorem Rd.le {r : UInt64} {q f : Rat} (h : Rd r q) (hf : FF r) (hr : Rp f) (hq : q ≤ f) : fv r ≤ f := by
  have := h.near hf (d := f - q) hr (by grind) (by grind)
  grind
theorem Rd.ge {r : UInt64} {q f : Rat} (h : Rd r q) (hf : FF r) (hr : Rp f) (hq : f ≤ q) : f ≤ fv r := by
  have := h.near hf (d := q - f) hr (by grind) (by grind)
  grind

/-- an error that is known by a power of two above the value -/
theorem Rd.err {r : UInt64} {q E : Rat} {n : Nat} (h : Rd r q) (hE : E * S = (2 ^ (n + 54) : Nat)) (hn : n + 54 ≤ 2074) (h1 : -E ≤ q) (h2 : q ≤ E) : FF r ∧ fv r - q ≤ E / 2 ^ 54 ∧ q - fv r ≤ E / 2 ^ 54 := by
  have hf : FF r := by
    have : E ≤ (2 : Rat) ^ 1000 := by
      apply Rat.le_of_mul_le_mul_right (c := (S : Rat)) _ S_pos
      rw [hE, ← pow_cast 1000, ← Rat.natCast_mul]
      refine cast_le (Nat.le_trans (Nat.pow_le_pow_right (n := 2) (by decide) hn) (Nat.le_of_eq ?_))
      unfold S
      rw [← Nat.pow_add]
    exact h.fin (by grind) (by grind)
  refine ⟨hf, ?_⟩
  -- the grid
  have hE' : E * S = (2 : Rat) ^ 53 * ((2 ^ (n + 1) : Nat) : Rat) := by
    rw [hE, ← pow_cast, ← Rat.natCast_mul, ← Nat.pow_add]; congr 2; omega
  have gp : (0 : Rat) < ((2 ^ (n + 1) : Nat) : Rat) := Rat.natCast_pos.mpr (Nat.two_pow_pos _)
  generalize hg : ((2 ^ (n + 1) : Nat) : Rat) = g at *
  have hgne : g ≠ 0 := by grind
  have m1 := Rat.floor_le (q * S / g + 1 / 2)
  have m2 := Rat.lt_floor_add_one (q * S / g + 1 / 2)
  generalize hm : (q * S / g + 1 / 2).floor = m at *
  rw [Rat.intCast_add, Rat.intCast_one] at m2
  have eq : q * S / g * g = q * S := Rat.div_mul_cancel hgne
  have b1 := Rat.mul_le_mul_of_nonneg_right h1 (Rat.le_of_lt S_pos)
  have b2 := Rat.mul_le_mul_of_nonneg_right h2 (Rat.le_of_lt S_pos)
  have c1 : q * S / g ≤ 2 ^ 53 := Rat.le_of_mul_le_mul_right (c := g) (by rw [eq]; grind) gp
  have c2 : -2 ^ 53 ≤ q * S / g := Rat.le_of_mul_le_mul_right (c := g) (by rw [eq]; grind) gp
  have hmb : m.natAbs ≤ 2 ^ 53 := by
    have d1 : (m : Rat) < ((2 ^ 53 + 1 : Int) : Rat) := by
      rw [show ((2 ^ 53 + 1 : Int) : Rat) = 2 ^ 53 + 1 from by decide +kernel]; grind
    have d2 : ((-2 ^ 53 - 1 : Int) : Rat) < (m : Rat) := by
      rw [show ((-2 ^ 53 - 1 : Int) : Rat) = -2 ^ 53 - 1 from by decide +kernel]; grind
    have d1 := Rat.intCast_lt_intCast.mp d1
    have d2 := Rat.intCast_lt_intCast.mp d2
    omega
  have hSne := S_ne
  have hr : Rp (m * g / S) := ⟨m, n + 1, hmb, by rw [Rat.div_mul_cancel hSne, hg]⟩
  have ef : m * g / S * S = m * g := Rat.div_mul_cancel hSne
  have x1 := Rat.mul_le_mul_of_nonneg_right m1 (Rat.le_of_lt gp)
  have x2 := Rat.mul_le_mul_of_nonneg_right (Rat.le_of_lt m2) (Rat.le_of_lt gp)
  have hE54 : E / 2 ^ 54 * S = g / 2 := by
    have : E / 2 ^ 54 * S = E * S / 2 ^ 54 := by grind
    rw [this, hE']; grind
  refine h.near hf hr ?_ ?_
  · apply Rat.le_of_mul_le_mul_right (c := (S : Rat)) _ S_pos
    rw [hE54]; grind
  · apply Rat.le_of_mul_le_mul_right (c := (S : Rat)) _ S_pos
    rw [hE54]; grind
end Mine

end
section
open PySem PySem.Float64
namespace Mine

theorem E_pow {a : Nat} (ha : a ≤ 1000) : (2 : Rat) ^ a * S = (2 ^ ((a + 1020) + 54) : Nat) := by
  rw [← pow_cast, ← Rat.natCast_mul]
  unfold S
  rw [← Nat.pow_add]
theorem pow_ne (a : Nat) : (2 : Rat) ^ a ≠ 0 := by
  have := Rat.pow_pos (a := 2) (n := a) (by decide)
  grind
theorem Rd.errp {r : UInt64} {q : Rat} (a : Nat) (h : Rd r q) (h1 : -2 ^ a ≤ q) (h2 : q ≤ 2 ^ a) (ha : a ≤ 1000 := by decide) : FF r ∧ fv r - q ≤ 2 ^ a / 2 ^ 54 ∧ q - fv r ≤ 2 ^ a / 2 ^ 54 :=
  h.err (E_pow ha) (by omega) h1 h2
theorem Rd.err1 {r : UInt64} {q : Rat} (h : Rd r q) (h1 : -1 ≤ q) (h2 : q ≤ 1) : FF r ∧ fv r - q ≤ 1 / 2 ^ 54 ∧ q - fv r ≤ 1 / 2 ^ 54 := by
  have := h.errp 0 (by grind) (by grind)
  simpa using this
theorem Rd.err2 {r : UInt64} {q : Rat} (h : Rd r q) (h1 : -2 ≤ q) (h2 : q ≤ 2) : FF r ∧ fv r - q ≤ 1 / 2 ^ 53 ∧ q - fv r ≤ 1 / 2 ^ 53 := by
  have := h.errp 1 (by grind) (by grind)
  exact ⟨this.1, by grind, by grind⟩

theorem fv_lt {x y : UInt64} : fv x < fv y ↔ val x < val y := by
  constructor
  · intro h
    have := Rat.mul_lt_mul_of_pos_right h S_pos
    rw [fv_S, fv_S] at this
    exact Rat.intCast_lt_intCast.mp this
  · intro h
    apply Rat.lt_of_mul_lt_mul_right (c := (S : Rat)) _ (Rat.le_of_lt S_pos)
    rw [fv_S, fv_S]
    exact Rat.intCast_lt_intCast.mpr h
theorem fv_eq {x y : UInt64} : fv x = fv y ↔ val x = val y := by
  constructor
  · intro h
    have : fv x * S = fv y * S := by rw [h]
    rw [fv_S, fv_S] at this
    exact Rat.intCast_inj.mp this
  · intro h; unfold fv; rw [h]

theorem cmp_lt {x y : UInt64} (hx : FF x) (hy : FF y) : (Float64.cmp x y == some .lt) = decide (fv x < fv y) := by
  obtain ⟨a, m, e, h1⟩ := hx.dec; obtain ⟨b, k, f, h2⟩ := hy.dec
  rw [cmp_right h1 h2]
  by_cases h : val x < val y
  · rw [decide_eq_true (fv_lt.mpr h), Int.compare_eq_lt.mpr h]; rfl
  · rw [decide_eq_false (fun z => h (fv_lt.mp z))]
    cases hc : compare (val x) (val y) with
    | lt => exact absurd (Int.compare_eq_lt.mp hc) h
    | _ => rfl
theorem cmp_eq {x y : UInt64} (hx : FF x) (hy : FF y) : (Float64.cmp x y == some .eq) = decide (fv x = fv y) := by
  obtain ⟨a, m, e, h1⟩ := hx.dec; obtain ⟨b, k, f, h2⟩ := hy.dec
  rw [cmp_right h1 h2]
  by_cases h : val x = val y
  · rw [decide_eq_true (fv_eq.mpr h), Int.compare_eq_eq.mpr h]; rfl
  · rw [decide_eq_false (fun z => h (fv_eq.mp z))]
    cases hc : compare (val x) (val y) with
    | eq => exact absurd (Int.compare_eq_eq.mp hc) h
    | _ => rfl

theorem isZero_fv {x : UInt64} (hx : FF x) : Float64.isZero x = decide (fv x = 0) := by
  obtain ⟨a, m, e, h1⟩ := hx.dec
  unfold isZero
  rw [h1]
  have hv := val_eq h1
  by_cases hm : m = 0
  · subst hm
    have : val x = 0 := by rw [hv]; unfold sgn; cases a <;> simp
    have : fv x = 0 := by unfold fv; rw [this]; simp [Rat.div_def]
    rw [decide_eq_true this]; rfl
  · have hp : 0 < m * 2 ^ (e + 1074).toNat := Nat.mul_pos (by omega) (Nat.two_pow_pos _)
    have : val x ≠ 0 := by
      rw [hv]; generalize m * 2 ^ (e + 1074).toNat = z at hp
      unfold sgn; cases a <;> simp <;> omega
    rw [decide_eq_false fun z => this ?_]
    · split
      · rename_i h; cases h; exact absurd rfl hm
      · rfl
    · have z' : fv x * S = 0 := by rw [z]; grind
      rw [fv_S] at z'
      exact Rat.intCast_eq_zero_iff.mp z'

theorem fv_const {x : UInt64} {m : Int} {j k : Nat} (h : val x = m * 2 ^ j) (hjk : j + k = 1074) : fv x = (m : Rat) / 2 ^ k := by
  have h1 : fv x * S = m * (2 : Rat) ^ j := by rw [fv_S, h, Rat.intCast_mul, Rat.intCast_pow]; rfl
  have h2 : (S : Rat) = (2 : Rat) ^ j * 2 ^ k := by
    unfold S
    rw [← pow_cast, ← pow_cast, ← Rat.natCast_mul, ← Nat.pow_add, hjk]
  have := pow_ne j; have := pow_ne k
  rw [h2] at h1
  grind

end Mine

end
section
open PySem PySem.Float64
namespace Mine

end Mine

end
section
open PySem PySem.Float64
namespace Mine

/-- a fraction of the depth -/
theorem frac_err {t a : Int} (h1 : 1 ≤ t) (h0 : 0 ≤ a) (h2 : a ≤ t) : ∃ ρ : Rat, ρ * t = a ∧ 0 ≤ ρ ∧ ρ ≤ 1 ∧ FF (divI a t) ∧ fv (divI a t) - ρ ≤ 1 / 2 ^ 54 ∧ ρ - fv (divI a t) ≤ 1 / 2 ^ 54 ∧ 0 ≤ fv (divI a t) ∧ fv (divI a t) ≤ 1 := by
  have ht : (0 : Rat) < t := Rat.intCast_pos.mpr (by omega)
  have hne : (t : Rat) ≠ 0 := by grind
  have ha : (0 : Rat) ≤ a := Rat.intCast_nonneg.mpr h0
  have hat : (a : Rat) ≤ t := icast_le h2
  have e : (a : Rat) / t * t = a := Rat.div_mul_cancel hne
  have q0 : 0 ≤ (a : Rat) / t := Rat.le_of_mul_le_mul_right (c := (t : Rat)) (by rw [e]; grind) ht
  have q1 : (a : Rat) / t ≤ 1 := Rat.le_of_mul_le_mul_right (c := (t : Rat)) (by rw [e]; grind) ht
  have hr := Rd_frac (a := a) (b := t) (by omega)
  obtain ⟨f, p, q⟩ := hr.err1 (by grind) (by grind)
  refine ⟨_, e, q0, q1, f, p, q, ?_, ?_⟩
  · exact hr.ge f ⟨0, 0, by decide, by simp⟩ q0
  · exact hr.le f ⟨1, 1074, by decide, by rw [Rat.one_mul]; unfold S; rw [Rat.intCast_one, Rat.one_mul]⟩ q1

theorem int_exact {a : Int} (h1 : -(2 ^ 53) ≤ a) (h2 : a ≤ 2 ^ 53) : FF (Float64.ofInt a) ∧ fv (Float64.ofInt a) = a := by
  have hr := Rd_int a
  have c1 := icast_le h1
  have c2 := icast_le h2
  rw [show ((-(2 ^ 53) : Int) : Rat) = -2 ^ 53 from by decide +kernel] at c1
  rw [show ((2 ^ 53 : Int) : Rat) = 2 ^ 53 from by decide +kernel] at c2
  obtain ⟨f, _⟩ := hr.errp 53 c1 c2
  exact ⟨f, hr.exact f ⟨a, 1074, by omega, rfl⟩⟩

end Mine

end
section
open PySem PySem.Float64
namespace Mine

theorem fv0 : FF 0 ∧ fv 0 = 0 := ⟨by decide +kernel, by have := fv_const (x := 0) (m := 0) (j := 1074) (k := 0) (by decide +kernel) (by decide); rw [this]; decide +kernel⟩
theorem fv1 : FF 4607182418800017408 ∧ fv 4607182418800017408 = 1 := ⟨by decide +kernel, by have := fv_const (x := 4607182418800017408) (m := 1) (j := 1074) (k := 0) (by decide +kernel) (by decide); rw [this]; decide +kernel⟩

end Mine

end
section
open PySem PySem.Float64
namespace Mine

theorem one_Rp : Rp 1 := ⟨1, 1074, by decide, by rw [Rat.one_mul]; unfold S; rw [Rat.intCast_one, Rat.one_mul]⟩
end Mine

end
section
open PySem PySem.Float64
namespace Mine

end Mine

end
section
open PySem PySem.Float64
namespace Mine

/-- the distance -/
def dd (x y : Rat) : Rat := if x ≤ y then y - x else x - y
/-- t is the nearest of the floats, the even one of two -/
def Nr (x : Rat) (t : Nat) : Prop := (∀ t', dd x (V t : Nat) ≤ dd x (V t' : Nat)) ∧ ∀ t', V t' ≠ V t → dd x (V t : Nat) = dd x (V t' : Nat) → t % 2 = 0

theorem dd_scale {x y u : Rat} (hu : 0 < u) : dd (x * u) (y * u) = dd x y * u := by
  unfold dd
  by_cases h : x ≤ y
  · rw [if_pos h, if_pos (Rat.mul_le_mul_of_nonneg_right h (Rat.le_of_lt hu))]; grind
  · rw [if_neg h, if_neg (fun z => h (Rat.le_of_mul_le_mul_right z hu))]; grind
theorem dist_dd (x y : Nat) : ((Float64.dist x y : Nat) : Rat) = dd x y := by
  unfold Float64.dist dd
  by_cases h : (x : Rat) ≤ y
  · rw [if_pos h]
    have := Rat.natCast_le_natCast.mp h
    have e : ((x - y + (y - x) : Nat) : Int) = (y : Int) - x := by omega
    rw [← Rat.intCast_natCast, e, Rat.intCast_sub]; rfl
  · rw [if_neg h]
    have : ¬ x ≤ y := fun z => h (cast_le z)
    have e : ((x - y + (y - x) : Nat) : Int) = (x : Int) - y := by omega
    rw [← Rat.intCast_natCast, e, Rat.intCast_sub]; rfl

theorem Rd.nr {r : UInt64} {q : Rat} (h : Rd r q) (hf : FF r) : ∃ (neg : Bool) (t : Nat), fv r * S = (if neg then -(V t : Rat) else V t) ∧ Nr ((if neg then -q else q) * S) t ∧ 0 ≤ (if neg then -q else q) := by
  obtain ⟨neg, W, D, t, hD, hu, hq, hv, hn⟩ := h.parts hf
  have hDp : (0 : Rat) < D := Rat.natCast_pos.mpr hD
  have hDne : (D : Rat) ≠ 0 := by grind
  have ex : (if neg then -q else q) * S * D = W := by cases neg <;> simp at hq ⊢ <;> grind
  have key : ∀ t', ((Float64.dist W (D * V t') : Nat) : Rat) = dd ((if neg then -q else q) * S) (V t' : Nat) * D := fun t' => by
    rw [dist_dd, ← dd_scale hDp, ex, Rat.natCast_mul, Rat.mul_comm]
  refine ⟨neg, t, ?_, ⟨fun t' => ?_, fun t' h1 h2 => (hn t').2 h1 ?_⟩, ?_⟩
  · rw [Rat.natCast_mul] at hv
    cases neg <;> simp at hv ⊢ <;> grind
  · have := cast_le (hn t').1
    rw [key, key] at this
    exact Rat.le_of_mul_le_mul_right this hDp
  · apply Rat.natCast_inj.mp
    rw [key, key, h2]
  · have hW : (0 : Rat) ≤ W := Rat.natCast_nonneg
    have : 0 * ((D : Rat) * S) ≤ (if neg then -q else q) * ((D : Rat) * S) := by grind
    exact Rat.le_of_mul_le_mul_right this hu

theorem vcast_lt {t t' : Nat} (h : V t < V t') : ((V t : Nat) : Rat) < (V t' : Nat) := Rat.natCast_lt_natCast.mpr h
/-- a multiple of 2^-k -/
def Gd (k : Nat) (q : Rat) : Prop := ∃ m : Int, q * 2 ^ k = m
theorem Gd.add {k : Nat} {p q : Rat} (h : Gd k p) (h' : Gd k q) : Gd k (p + q) := by
  obtain ⟨a, ha⟩ := h; obtain ⟨b, hb⟩ := h'
  exact ⟨a + b, by rw [Rat.intCast_add]; grind⟩
theorem Gd.sub {k : Nat} {p q : Rat} (h : Gd k p) (h' : Gd k q) : Gd k (p - q) := by
  obtain ⟨a, ha⟩ := h; obtain ⟨b, hb⟩ := h'
  exact ⟨a - b, by rw [Rat.intCast_sub]; grind⟩
theorem pow_split (a b : Nat) : (2 : Rat) ^ (a + b) = 2 ^ a * 2 ^ b := by
  rw [← pow_cast, ← pow_cast, ← pow_cast, Nat.pow_add, Rat.natCast_mul]
theorem Gd.mul {j k : Nat} {p q : Rat} (h : Gd j p) (h' : Gd k q) : Gd (j + k) (p * q) := by
  obtain ⟨a, ha⟩ := h; obtain ⟨b, hb⟩ := h'
  refine ⟨a * b, ?_⟩
  rw [Rat.intCast_mul, ← ha, ← hb, pow_split]
  grind
theorem Gd.more {j k : Nat} {p : Rat} (h : Gd j p) (hjk : j ≤ k) : Gd k p := by
  obtain ⟨a, ha⟩ := h
  refine ⟨a * (2 ^ (k - j) : Nat), ?_⟩
  rw [Rat.intCast_mul, ← ha, Rat.intCast_natCast, pow_cast, Rat.mul_assoc, ← pow_split, show j + (k - j) = k by omega]
theorem Gd.tiny {k : Nat} {p : Rat} (h : Gd k p) : p = 0 ∨ 1 / 2 ^ k ≤ p ∨ p ≤ -(1 / 2 ^ k) := by
  obtain ⟨a, ha⟩ := h
  have hp : (0 : Rat) < 2 ^ k := Rat.pow_pos (by decide)
  have hne := pow_ne k
  have e : (1 / 2 ^ k : Rat) * 2 ^ k = 1 := Rat.div_mul_cancel hne
  rcases Int.lt_trichotomy a 0 with z | z | z
  · right; right
    have : (a : Rat) ≤ ((-1 : Int) : Rat) := icast_le (by omega)
    rw [Rat.intCast_neg, Rat.intCast_one] at this
    apply Rat.le_of_mul_le_mul_right (c := (2 : Rat) ^ k) _ hp
    grind
  · left; subst z; simp at ha; grind
  · right; left
    have : ((1 : Int) : Rat) ≤ (a : Rat) := icast_le (by omega)
    rw [Rat.intCast_one] at this
    apply Rat.le_of_mul_le_mul_right (c := (2 : Rat) ^ k) _ hp
    grind
theorem Rp_grid {k : Nat} (hk : k ≤ 1000) {m : Int} (hm : m.natAbs ≤ 2 ^ 53) {q : Rat} (h : q * 2 ^ k = m) : Rp q := by
  refine ⟨m, 1074 - k, hm, ?_⟩
  have : (S : Rat) = 2 ^ k * 2 ^ (1074 - k) := by
    rw [← pow_split, show k + (1074 - k) = 1074 by omega, ← pow_cast]; rfl
  rw [this, ← h, pow_cast]; grind
end Mine

end
section
open PySem PySem.Float64
namespace Mine

theorem pow_mono2 {a b : Nat} (h : a ≤ b) : (2 : Rat) ^ a ≤ 2 ^ b := by
  rw [← pow_cast, ← pow_cast]; exact cast_le (Nat.pow_le_pow_right (by decide) h)
end Mine

end
section
open PySem PySem.Float64
namespace Mine

end Mine

end
section
open PySem PySem.Float64
namespace Mine

theorem Rd_bin {a : Bool} {M : Nat} {g : Int} (hg : -1074 ≤ g) : Rd (ofBin a M g) (((sgn a (M * 2 ^ (g + 1074).toNat) : Int) : Rat) / S) := by
  refine ⟨a, M * 2 ^ (g + 1074).toNat, 1, by decide, ?_, ?_⟩
  · unfold ofBin
    have := shift_one M g 1074 (by omega)
    have hp := shift_pos M 1 g (by decide)
    generalize Float64.shift M 1 g = z at *
    obtain ⟨n, d⟩ := z
    exact ofFrac_right hp (by rw [Nat.mul_one]; exact this) (by decide)
  · show _ / (S : Rat) * (((1 : Nat) : Rat) * S) = _
    rw [show ((1 : Nat) : Rat) = 1 from rfl, Rat.one_mul, Rat.div_mul_cancel S_ne]

theorem decode_one : decode 4607182418800017408 = .fin false (2 ^ 52) (-52) := by kernel_rfl

/-- the rest by 1.0 -/
theorem fmod_one {x : UInt64} (hx : FF x) : FF (fmod x 4607182418800017408) ∧ ∃ k : Int, fv x = k + fv (fmod x 4607182418800017408) ∧ fv (fmod x 4607182418800017408) < 1 ∧ -1 < fv (fmod x 4607182418800017408) ∧ (0 ≤ fv x → 0 ≤ fv (fmod x 4607182418800017408)) ∧ (fv x ≤ 0 → fv (fmod x 4607182418800017408) ≤ 0) := by
  obtain ⟨a, m, e, hd⟩ := hx.dec
  have he := decode_ge hd
  have hm := (decode_le hd).1
  have hg : -1074 ≤ min e (-52) := by omega
  have hfm : fmod x 4607182418800017408 = ofBin a (m * 2 ^ (e - min e (-52)).toNat % (2 ^ 52 * 2 ^ (-52 - min e (-52)).toNat)) (min e (-52)) := by
    unfold fmod
    rw [hd, decode_one]
    simp only [align, sgn, Bool.false_eq_true, if_false, Int.toNat_natCast]
    rfl
  rw [hfm]
  generalize hgg : min e (-52) = g at *
  have hr := Rd_bin (a := a) (M := m * 2 ^ (e - g).toNat % (2 ^ 52 * 2 ^ (-52 - g).toNat)) hg
  have hq : 2 ^ 52 * 2 ^ (-52 - g).toNat * 2 ^ (g + 1074).toNat = S := by
    unfold S; rw [← Nat.pow_add, ← Nat.pow_add]; congr 1; omega
  have hp : m * 2 ^ (e - g).toNat * 2 ^ (g + 1074).toNat = (val x).natAbs := by
    rw [val_natAbs hd, Nat.mul_assoc, ← Nat.pow_add]; congr 2; omega
  have hM : m * 2 ^ (e - g).toNat % (2 ^ 52 * 2 ^ (-52 - g).toNat) ≤ 2 ^ 53 := by
    by_cases h1 : -52 ≤ e
    · have : g = -52 := by omega
      subst this
      have := Nat.mod_lt (m * 2 ^ (e - -52).toNat) (y := 2 ^ 52 * 2 ^ (-52 - -52 : Int).toNat) (by decide)
      have e0 : (2 : Nat) ^ 52 * 2 ^ (-52 - -52 : Int).toNat = 2 ^ 52 := by decide
      rw [e0] at this ⊢
      omega
    · have : g = e := by omega
      subst this
      have e0 : (g - g).toNat = 0 := by omega
      rw [e0, Nat.pow_zero, Nat.mul_one]
      exact Nat.le_trans (Nat.mod_le _ _) (by omega)
  have hW : m * 2 ^ (e - g).toNat % (2 ^ 52 * 2 ^ (-52 - g).toNat) * 2 ^ (g + 1074).toNat = (val x).natAbs % S := by
    rw [← hp, ← hq, Nat.mul_mod_mul_right]
  have hSp : 0 < S := Nat.two_pow_pos _
  have hlt := Nat.mod_lt (val x).natAbs hSp
  have hdm := Nat.div_add_mod (val x).natAbs S
  have hSne := S_ne
  have hS := S_pos
  have hltQ : (((val x).natAbs % S : Nat) : Rat) < S := Rat.natCast_lt_natCast.mpr hlt
  have hnn : (0 : Rat) ≤ (((val x).natAbs % S : Nat) : Rat) := Rat.natCast_nonneg
  generalize hMM : m * 2 ^ (e - g).toNat % (2 ^ 52 * 2 ^ (-52 - g).toNat) = M at *
  rw [hW] at hr
  have hrp : Rp (((sgn a ((val x).natAbs % S) : Int) : Rat) / S) := by
    refine ⟨sgn a M, (g + 1074).toNat, by rw [sgn_natAbs]; exact hM, ?_⟩
    rw [Rat.div_mul_cancel hSne, ← hW, sgn_mul, Rat.intCast_mul]; rfl
  have hb : -1 < ((sgn a ((val x).natAbs % S) : Int) : Rat) / S ∧ ((sgn a ((val x).natAbs % S) : Int) : Rat) / S < 1 := by
    have e1 : ((sgn a ((val x).natAbs % S) : Int) : Rat) / S * S = ((sgn a ((val x).natAbs % S) : Int) : Rat) := Rat.div_mul_cancel hSne
    rw [sgn_cast] at e1 ⊢
    constructor
    · apply Rat.lt_of_mul_lt_mul_right (c := (S : Rat)) _ (Rat.le_of_lt hS)
      rw [e1]; cases a <;> simp <;> grind
    · apply Rat.lt_of_mul_lt_mul_right (c := (S : Rat)) _ (Rat.le_of_lt hS)
      rw [e1]; cases a <;> simp <;> grind
  have f : FF (ofBin a M g) := (hr.err1 (by grind) (by grind)).1
  have ev := hr.exact f hrp
  refine ⟨f, sgn a ((val x).natAbs / S), ?_, ?_⟩
  · have hv : fv x * S = ((sgn a (val x).natAbs : Int) : Rat) := by rw [fv_S, val_sgn hd]
    have h1 : ((sgn a (val x).natAbs : Int) : Rat) = (sgn a ((val x).natAbs / S) : Int) * S + (sgn a ((val x).natAbs % S) : Int) := by
      have h2 : ((val x).natAbs : Rat) = S * (((val x).natAbs / S : Nat) : Rat) + (((val x).natAbs % S : Nat) : Rat) := by rw [← Rat.natCast_mul, ← Rat.natCast_add, hdm]
      rw [sgn_cast, sgn_cast, sgn_cast]
      cases a <;> simp <;> grind
    rw [ev]
    have e1 : ((sgn a ((val x).natAbs % S) : Int) : Rat) / S * S = ((sgn a ((val x).natAbs % S) : Int) : Rat) := Rat.div_mul_cancel hSne
    have : fv x * S = ((sgn a ((val x).natAbs / S) : Int) + ((sgn a ((val x).natAbs % S) : Int) : Rat) / S) * S := by rw [hv, h1]; grind
    grind
  · rw [ev]
    refine ⟨hb.2, hb.1, fun h0 => ?_, fun h0 => ?_⟩
    · apply Rat.le_of_mul_le_mul_right (c := (S : Rat)) _ hS
      rw [Rat.div_mul_cancel hSne, sgn_cast]
      have hv : fv x * S = ((sgn a (val x).natAbs : Int) : Rat) := by rw [fv_S, val_sgn hd]
      rw [sgn_cast] at hv
      have h3 := Rat.mul_le_mul_of_nonneg_right h0 (Rat.le_of_lt hS)
      cases a
      · simp; exact hnn
      · simp at hv ⊢
        have h4 : ((val x).natAbs : Rat) ≤ 0 := by grind
        have h5 : (val x).natAbs ≤ 0 := Rat.natCast_le_natCast.mp h4
        have : (val x).natAbs = 0 := by omega
        rw [this]; simp
    · apply Rat.le_of_mul_le_mul_right (c := (S : Rat)) _ hS
      rw [Rat.div_mul_cancel hSne, sgn_cast]
      have hv : fv x * S = ((sgn a (val x).natAbs : Int) : Rat) := by rw [fv_S, val_sgn hd]
      rw [sgn_cast] at hv
      have h3 := Rat.mul_le_mul_of_nonneg_right h0 (Rat.le_of_lt hS)
      cases a
      · simp at hv ⊢
        have h4 : ((val x).natAbs : Rat) ≤ 0 := by grind
        have h5 : (val x).natAbs ≤ 0 := Rat.natCast_le_natCast.mp h4
        have : (val x).natAbs = 0 := by omega
        rw [this]; simp
      · simp; grind
end Mine

end
section
open PySem PySem.Float64
namespace Mine

/-- x % 1.0 -/
def mod1 (x : UInt64) : UInt64 := (Float64.divmod x 4607182418800017408).2

theorem mod1_eq (x : UInt64) : mod1 x = if Float64.isZero (fmod x 4607182418800017408) = true then 0 else if (Float64.cmp (fmod x 4607182418800017408) 0 == some .lt) = true then Float64.add (fmod x 4607182418800017408) 4607182418800017408 else fmod x 4607182418800017408 := by
  unfold mod1 divmod
  simp only
  have e1 : copysign (zero false) 4607182418800017408 = 0 := by decide +kernel
  have e2 : Float64.lt 4607182418800017408 (zero false) = false := by decide +kernel
  have e3 : (zero false : UInt64) = 0 := by decide +kernel
  have e4 : ∀ y, Float64.lt y (zero false) = (Float64.cmp y 0 == some .lt) := fun y => by rw [e3]; rfl
  rw [e1, e2, e4]
  by_cases h : Float64.isZero (fmod x 4607182418800017408) = true
  · simp [h]
  · rw [if_neg h, if_neg h]
    cases hc : (Float64.cmp (fmod x 4607182418800017408) 0 == some .lt) <;> simp

theorem mod1_spec {x : UInt64} (hx : FF x) : FF (mod1 x) ∧ 0 ≤ fv (mod1 x) ∧ fv (mod1 x) ≤ 1 ∧ ∃ (k : Int) (f : Rat), fv x = k + f ∧ 0 ≤ f ∧ f < 1 ∧ (fv (mod1 x) = f ∨ (fv x < 0 ∧ Rd (mod1 x) f)) := by
  obtain ⟨fm, k, hk, h1, h2, h3, h4⟩ := fmod_one hx
  rw [mod1_eq]
  generalize fmod x 4607182418800017408 = m at *
  rw [isZero_fv fm, cmp_lt fm fv0.1, fv0.2]
  by_cases z : fv m = 0
  · rw [if_pos (by simpa using z)]
    exact ⟨fv0.1, by rw [fv0.2]; exact Rat.le_refl, by rw [fv0.2]; decide, k, 0, by grind, by decide, by decide, .inl fv0.2⟩
  · rw [if_neg (by simpa using z)]
    by_cases n : fv m < 0
    · rw [if_pos (by simpa using n)]
      have hr := Rd_add fm fv1.1
      rw [fv1.2] at hr
      obtain ⟨f, _⟩ := hr.err1 (by grind) (by grind)
      refine ⟨f, hr.ge f ⟨0, 0, by decide, by simp⟩ (by grind), hr.le f one_Rp (by grind), k - 1, fv m + 1, by rw [Rat.intCast_sub, Rat.intCast_one]; grind, by grind, by grind, .inr ⟨?_, hr⟩⟩
      by_cases q : fv x < 0
      · exact q
      · exact absurd (h3 (by grind)) (by grind)
    · rw [if_neg (by simpa using n)]
      exact ⟨fm, by grind, by grind, k, fv m, hk, by grind, h1, .inl rfl⟩
end Mine

end
section
open PySem PySem.Float64
namespace Mine

end Mine

end
section
open PySem PySem.Float64
namespace Mine

theorem floor_of {x : Rat} {k : Int} (h0 : (k : Rat) ≤ x) (h1 : x < k + 1) : x.floor = k := by
  have a := Rat.le_floor_iff.mpr h0
  have b : x.floor < k + 1 := Rat.floor_lt_iff.mpr (by rw [Rat.intCast_add, Rat.intCast_one]; exact h1)
  omega
end Mine

end
section
open PySem PySem.Float64
namespace Mine

theorem k6i : FF 4595172819793696085 ∧ fv 4595172819793696085 = 6004799503160661 / 2 ^ 55 := ⟨by decide +kernel, by have := fv_const (x := 4595172819793696085) (m := 6004799503160661) (j := 1019) (k := 55) (by decide +kernel) (by decide); simpa using this⟩
theorem k3i : FF 4599676419421066581 ∧ fv 4599676419421066581 = 6004799503160661 / 2 ^ 54 := ⟨by decide +kernel, by have := fv_const (x := 4599676419421066581) (m := 6004799503160661) (j := 1020) (k := 54) (by decide +kernel) (by decide); simpa using this⟩
theorem k23 : FF 4604180019048437077 ∧ fv 4604180019048437077 = 6004799503160661 / 2 ^ 53 := ⟨by decide +kernel, by have := fv_const (x := 4604180019048437077) (m := 6004799503160661) (j := 1021) (k := 53) (by decide +kernel) (by decide); simpa using this⟩
theorem kh : FF 4602678819172646912 ∧ fv 4602678819172646912 = 1 / 2 := ⟨by decide +kernel, by have := fv_const (x := 4602678819172646912) (m := 1) (j := 1073) (k := 1) (by decide +kernel) (by decide); simpa using this⟩
theorem k2 : FF 4611686018427387904 ∧ fv 4611686018427387904 = 2 := ⟨by decide +kernel, by have := fv_const (x := 4611686018427387904) (m := 2) (j := 1074) (k := 0) (by decide +kernel) (by decide); rw [this]; decide +kernel⟩
theorem k4 : FF 4616189618054758400 ∧ fv 4616189618054758400 = 4 := ⟨by decide +kernel, by have := fv_const (x := 4616189618054758400) (m := 4) (j := 1074) (k := 0) (by decide +kernel) (by decide); rw [this]; decide +kernel⟩
theorem k6 : FF 4618441417868443648 ∧ fv 4618441417868443648 = 6 := ⟨by decide +kernel, by have := fv_const (x := 4618441417868443648) (m := 6) (j := 1074) (k := 0) (by decide +kernel) (by decide); rw [this]; decide +kernel⟩

theorem Rd.err8 {r : UInt64} {q : Rat} (h : Rd r q) (h1 : -8 ≤ q) (h2 : q ≤ 8) : FF r ∧ fv r - q ≤ 4 / 2 ^ 53 ∧ q - fv r ≤ 4 / 2 ^ 53 := by
  have e : (2 : Rat) ^ 3 = 8 := by decide +kernel
  have := h.errp 3 (by rw [e]; exact h1) (by rw [e]; exact h2)
  rw [e] at this
  exact ⟨this.1, by grind, by grind⟩
/-- _v -/
def vT (m1 m2 h : UInt64) : UInt64 := if (Float64.cmp h 4595172819793696085 == some .lt) = true then Float64.add m1 (Float64.mul (Float64.mul (Float64.sub m2 m1) h) 4618441417868443648)
  else if (Float64.cmp h 4602678819172646912 == some .lt) = true then m2
  else if (Float64.cmp h 4604180019048437077 == some .lt) = true then Float64.add m1 (Float64.mul (Float64.mul (Float64.sub m2 m1) (Float64.sub 4604180019048437077 h)) 4618441417868443648) else m1
def vF (m1 m2 hue : UInt64) : UInt64 := vT m1 m2 (mod1 hue)
theorem vT_eq {m1 m2 h : UInt64} (fh : FF h) : vT m1 m2 h = if fv h < 6004799503160661 / 2 ^ 55 then Float64.add m1 (Float64.mul (Float64.mul (Float64.sub m2 m1) h) 4618441417868443648)
  else if fv h < 1 / 2 then m2
  else if fv h < 6004799503160661 / 2 ^ 53 then Float64.add m1 (Float64.mul (Float64.mul (Float64.sub m2 m1) (Float64.sub 4604180019048437077 h)) 4618441417868443648) else m1 := by
  unfold vT
  rw [cmp_lt fh k6i.1, cmp_lt fh kh.1, cmp_lt fh k23.1, k6i.2, kh.2, k23.2]
  simp only [decide_eq_true_eq]

end Mine

end
section
open PySem PySem.Float64
namespace Mine

end Mine

end
section
open PySem PySem.Float64
namespace Mine

theorem Rp0 : Rp 0 := ⟨0, 0, by decide, by simp⟩
end Mine

end
section
open PySem PySem.Float64
namespace Mine

end Mine

end
section
open PySem PySem.Float64
namespace Mine

end Mine
namespace Mine
end Mine

end
section
open PySem PySem.Float64
namespace Mine

theorem floor_frac (a d : Nat) (hd : 0 < d) : ((a : Rat) / d).floor = ((a / d : Nat) : Int) := by
  have hdp : (0 : Rat) < d := Rat.natCast_pos.mpr hd
  have hne : (d : Rat) ≠ 0 := by grind
  have e : (a : Rat) / d * d = a := Rat.div_mul_cancel hne
  have h := Nat.div_add_mod a d
  have hl := Nat.mod_lt a hd
  have h1 : (a : Rat) = d * (a / d : Nat) + (a % d : Nat) := by rw [← Rat.natCast_mul, ← Rat.natCast_add, h]
  have h2 : ((a % d : Nat) : Rat) < d := Rat.natCast_lt_natCast.mpr hl
  have h3 : (0 : Rat) ≤ ((a % d : Nat) : Rat) := Rat.natCast_nonneg
  apply floor_of
  · rw [Rat.intCast_natCast]
    exact Rat.le_of_mul_le_mul_right (c := (d : Rat)) (by rw [e]; grind) hdp
  · rw [Rat.intCast_natCast]
    exact Rat.lt_of_mul_lt_mul_right (c := (d : Rat)) (by rw [e]; grind) (Rat.le_of_lt hdp)

theorem trunc_fv {x : UInt64} (f : FF x) (h0 : 0 ≤ fv x) : truncF x = (fv x).floor := by
  obtain ⟨s, m, e, hd⟩ := f.dec
  unfold truncF
  rw [hd]
  show (if s then ceilOf s m e else floorOf s m e) = _
  have hp := shift_pos m 1 e (by decide)
  have hs := shift_one m e 1074 (by have := decode_ge hd; omega)
  have hv := val_natAbs hd
  have key : (((val x).natAbs : Nat) : Rat) = fv x * S ∨ fv x = 0 := by
    have h3 := sgn_cast s (val x).natAbs
    rw [val_sgn hd, ← fv_S x] at h3
    have hS := S_pos
    cases s
    · left; simp at h3; exact h3.symm
    · simp at h3
      by_cases z : fv x = 0
      · right; exact z
      · have : 0 < fv x * S := Rat.mul_pos (by grind) hS
        have n : (0 : Rat) ≤ ((val x).natAbs : Nat) := Rat.natCast_nonneg
        grind
  have hfa : fv x * (Float64.shift m 1 e).2 = (Float64.shift m 1 e).1 := by
    have e1 : ((Float64.shift m 1 e).1 : Rat) * S = ((val x).natAbs : Rat) * (Float64.shift m 1 e).2 := by
      rw [hv]; show _ * ((2 ^ 1074 : Nat) : Rat) = _
      rw [← Rat.natCast_mul, ← Rat.natCast_mul, hs]
      congr 1
    have hS := S_pos
    have hSne := S_ne
    rcases key with k | k
    · rw [k] at e1; grind
    · have : (((val x).natAbs : Nat) : Rat) = 0 := by
        have h3 := sgn_cast s (val x).natAbs
        rw [val_sgn hd, ← fv_S x, k] at h3
        cases s <;> simp at h3 <;> grind
      rw [this] at e1
      rw [k]; grind
  have hfl : (fv x).floor = (((Float64.shift m 1 e).1 / (Float64.shift m 1 e).2 : Nat) : Int) := by
    have hdp : (0 : Rat) < ((Float64.shift m 1 e).2 : Nat) := Rat.natCast_pos.mpr hp
    have hne : (((Float64.shift m 1 e).2 : Nat) : Rat) ≠ 0 := by grind
    have : fv x = ((Float64.shift m 1 e).1 : Rat) / ((Float64.shift m 1 e).2 : Nat) := by
      rw [← hfa]; grind
    rw [this]; exact floor_frac _ _ hp
  cases s with
  | false =>
    rw [hfl]
    show floorOf false m e = _
    unfold floorOf Float64.shift sgn
    by_cases he : 0 ≤ e
    · simp [he]
    · simp [he]
      rw [Int.fdiv_eq_ediv_of_nonneg _ (Int.le_of_lt (Int.pow_pos (by decide)))]
  | true =>
    have z : fv x = 0 := by
      rcases key with k | k
      · have h3 := sgn_cast true (val x).natAbs
        rw [val_sgn hd, ← fv_S x] at h3
        simp at h3
        have hS := S_pos
        have n : (0 : Rat) ≤ ((val x).natAbs : Nat) := Rat.natCast_nonneg
        have : fv x * S = 0 := by grind
        have hSne := S_ne
        grind
      · exact k
    have z1 : (Float64.shift m 1 e).1 = 0 := by
      rw [z] at hfa
      apply Rat.natCast_inj.mp
      rw [← hfa]; simp
    have m0 : m = 0 := by
      unfold Float64.shift at z1
      by_cases he : 0 ≤ e
      · simp [he] at z1
        rcases Nat.eq_zero_or_pos m with q | q
        · exact q
        · exact absurd z1 (Nat.ne_of_gt (Nat.mul_pos q (Nat.two_pow_pos _)))
      · simp [he] at z1; exact z1
    rw [z, m0]
    show -floorOf false 0 e = _
    unfold floorOf sgn
    by_cases he : 0 ≤ e
    · simp [he]; decide +kernel
    · simp [he]; decide +kernel

/-- the fraction behind the whole number is a float -/
theorem frac_Rp {x : UInt64} (f : FF x) (h0 : 0 ≤ fv x) : Rp (fv x - (fv x).floor) := by
  obtain ⟨fm, k, hk, h1, h2, h3, h4⟩ := fmod_one f
  have := floor_of (x := fv x) (k := k) (by have := h3 h0; grind) (by grind)
  rw [this, show fv x - k = fv (fmod x 4607182418800017408) by grind]
  exact Rp_fv fm

/-- hsv_to_rgb -/
def h6F (h : UInt64) : UInt64 := Float64.mul h 4618441417868443648
def hsvF (h : UInt64) : UInt64 := Float64.sub (h6F h) (Float64.ofInt (truncF (h6F h)))
def hsvP (s v : UInt64) : UInt64 := Float64.mul v (Float64.sub 4607182418800017408 s)
def hsvQ (s v f : UInt64) : UInt64 := Float64.mul v (Float64.sub 4607182418800017408 (Float64.mul s f))
def hsvT (s v f : UInt64) : UInt64 := Float64.mul v (Float64.sub 4607182418800017408 (Float64.mul s (Float64.sub 4607182418800017408 f)))
def pick (k : Int) (a0 a1 a2 a3 a4 a5 : UInt64) : UInt64 := if (k == 0) = true then a0 else if (k == 1) = true then a1 else if (k == 2) = true then a2 else if (k == 3) = true then a3 else if (k == 4) = true then a4 else a5
def hsvR (h s v : UInt64) : UInt64 := if (Float64.cmp s 0 == some .eq) = true then v else pick (truncF (h6F h) % 6) v (hsvQ s v (hsvF h)) (hsvP s v) (hsvP s v) (hsvT s v (hsvF h)) v
def hsvG (h s v : UInt64) : UInt64 := if (Float64.cmp s 0 == some .eq) = true then v else pick (truncF (h6F h) % 6) (hsvT s v (hsvF h)) v v (hsvQ s v (hsvF h)) (hsvP s v) (hsvP s v)
def hsvB (h s v : UInt64) : UInt64 := if (Float64.cmp s 0 == some .eq) = true then v else pick (truncF (h6F h) % 6) (hsvP s v) (hsvP s v) (hsvT s v (hsvF h)) v v (hsvQ s v (hsvF h))

end Mine

end
section
open PySem PySem.Float64
namespace Mine

end Mine

end
section
open PySem PySem.Float64
namespace Mine

end Mine

end
section
open PySem PySem.Float64
namespace Mine

end Mine

end
section
open PySem PySem.Float64
namespace Mine

theorem RpG {k : Nat} {q B : Rat} (hk : k ≤ 1000) (g : Gd k q) (h1 : -B ≤ q) (h2 : q ≤ B) (hB : B * 2 ^ k ≤ 2 ^ 53) : Rp q := by
  obtain ⟨m, hm⟩ := g
  have hp : (0 : Rat) < 2 ^ k := Rat.pow_pos (by decide)
  have a := Rat.mul_le_mul_of_nonneg_right h1 (Rat.le_of_lt hp)
  have b := Rat.mul_le_mul_of_nonneg_right h2 (Rat.le_of_lt hp)
  refine Rp_grid hk (m := m) ?_ hm
  have c1 : (m : Rat) ≤ ((2 ^ 53 : Int) : Rat) := by rw [Rat.intCast_pow]; show _ ≤ (2 : Rat) ^ 53; grind
  have c2 : ((-(2 ^ 53) : Int) : Rat) ≤ (m : Rat) := by rw [Rat.intCast_neg, Rat.intCast_pow]; show -(2 : Rat) ^ 53 ≤ _; grind
  have c1 := Rat.intCast_le_intCast.mp c1
  have c2 := Rat.intCast_le_intCast.mp c2
  omega
theorem Gd_one {k : Nat} : Gd k 1 := ⟨(2 ^ k : Nat), by rw [Rat.intCast_natCast, pow_cast]; grind⟩
/-- x % 1.0 of what lies within a turn of it -/
theorem mod1_in {x : UInt64} (f : FF x) (h0 : 0 ≤ fv x) (h1 : fv x < 1) : fv (mod1 x) = fv x := by
  obtain ⟨_, _, _, k, g, e, g0, g1, hh⟩ := mod1_spec f
  have : k = 0 := by
    have a : (k : Rat) < ((1 : Int) : Rat) := by rw [Rat.intCast_one]; grind
    have b : ((-1 : Int) : Rat) < (k : Rat) := by rw [Rat.intCast_neg, Rat.intCast_one]; grind
    have a := Rat.intCast_lt_intCast.mp a
    have b := Rat.intCast_lt_intCast.mp b
    omega
  subst this
  rw [Rat.intCast_zero] at e
  rcases hh with z | z <;> grind
theorem mod1_up {x : UInt64} (f : FF x) (h0 : 1 ≤ fv x) (h1 : fv x < 2) : fv (mod1 x) = fv x - 1 := by
  obtain ⟨_, _, _, k, g, e, g0, g1, hh⟩ := mod1_spec f
  have : k = 1 := by
    have a : (k : Rat) < ((2 : Int) : Rat) := by rw [show ((2 : Int) : Rat) = 2 from rfl]; grind
    have b : ((0 : Int) : Rat) < (k : Rat) := by rw [Rat.intCast_zero]; grind
    have a := Rat.intCast_lt_intCast.mp a
    have b := Rat.intCast_lt_intCast.mp b
    omega
  subst this
  rw [Rat.intCast_one] at e
  rcases hh with z | z <;> grind
theorem mod1_dn {x : UInt64} (f : FF x) (h0 : -1 ≤ fv x) (h1 : fv x < 0) : fv (mod1 x) - (fv x + 1) ≤ 1/2^54 ∧ (fv x + 1) - fv (mod1 x) ≤ 1/2^54 := by
  obtain ⟨fm, _, _, k, g, e, g0, g1, hh⟩ := mod1_spec f
  have : k = -1 := by
    have a : (k : Rat) < ((0 : Int) : Rat) := by rw [Rat.intCast_zero]; grind
    have b : ((-2 : Int) : Rat) < (k : Rat) := by rw [show ((-2 : Int) : Rat) = -2 from rfl]; grind
    have a := Rat.intCast_lt_intCast.mp a
    have b := Rat.intCast_lt_intCast.mp b
    omega
  subst this
  rw [Rat.intCast_neg, Rat.intCast_one] at e
  rcases hh with z | ⟨_, z⟩
  · exact ⟨by grind, by grind⟩
  · have := z.err1 (by grind) (by grind)
    exact ⟨by grind, by grind⟩
end Mine

end
section
open PySem PySem.Float64
namespace Mine

theorem vT_m2 {m1 m2 h : UInt64} (f : FF h) (h0 : 6004799503160661 / 2^55 ≤ fv h) (h1 : fv h < 1/2) : vT m1 m2 h = m2 := by
  rw [vT_eq f, if_neg (by grind), if_pos h1]
theorem vT_m1 {m1 m2 h : UInt64} (f : FF h) (h0 : 6004799503160661 / 2^53 ≤ fv h) : vT m1 m2 h = m1 := by
  rw [vT_eq f, if_neg (by grind), if_neg (by grind), if_neg (by grind)]
end Mine

end
section
open PySem PySem.Float64
namespace Mine

theorem vF_flat {m1 m2 a : UInt64} (l0 : 0 ≤ fv m1) (l1 : fv m1 ≤ 1) (f1 : FF m1) (f2 : FF m2) (fa : FF a) (e : fv m2 = fv m1) : FF (vF m1 m2 a) ∧ fv (vF m1 m2 a) = fv m1 := by
  have ramp : ∀ x : UInt64, FF x → FF (Float64.add m1 (Float64.mul (Float64.mul (Float64.sub m2 m1) x) 4618441417868443648)) ∧ fv (Float64.add m1 (Float64.mul (Float64.mul (Float64.sub m2 m1) x) 4618441417868443648)) = fv m1 := fun x fx => by
    have r1 := Rd_sub f2 f1
    rw [e, show fv m1 - fv m1 = 0 by grind] at r1
    obtain ⟨g1, _⟩ := r1.err1 (by decide) (by decide)
    have z1 := r1.exact g1 Rp0
    have r2 := Rd_mul g1 fx
    rw [z1, show (0 : Rat) * fv x = 0 by grind] at r2
    obtain ⟨g2, _⟩ := r2.err1 (by decide) (by decide)
    have z2 := r2.exact g2 Rp0
    have r3 := Rd_mul g2 k6.1
    rw [z2, show (0 : Rat) * fv 4618441417868443648 = 0 by grind] at r3
    obtain ⟨g3, _⟩ := r3.err1 (by decide) (by decide)
    have z3 := r3.exact g3 Rp0
    have r4 := Rd_add f1 g3
    rw [z3, show fv m1 + 0 = fv m1 by grind] at r4
    have m := Rp_fv f1
    have ff : FF (Float64.add m1 (Float64.mul (Float64.mul (Float64.sub m2 m1) x) 4618441417868443648)) := by
      exact (r4.err2 (by grind) (by grind)).1
    exact ⟨ff, r4.exact ff m⟩
  obtain ⟨fm, _⟩ := mod1_spec fa
  unfold vF
  rw [vT_eq fm]
  split
  · exact ramp _ fm
  · split
    · exact ⟨f2, e⟩
    · split
      · have r := Rd_sub k23.1 fm
        rw [k23.2] at r
        obtain ⟨g, _⟩ := r.err2 (by have := (mod1_spec fa).2.2.1; grind) (by have := (mod1_spec fa).2.1; grind)
        exact ramp _ g
      · exact ⟨f1, rfl⟩
end Mine

end
section
open PySem PySem.Float64
namespace Mine

theorem cancelQ {a b t : Rat} (ht : 0 < t) (h : a * t = b * t) : a = b := by
  have h1 := Rat.le_of_mul_le_mul_right (a := a) (b := b) (c := t) (by grind) ht
  have h2 := Rat.le_of_mul_le_mul_right (a := b) (b := a) (c := t) (by grind) ht
  grind
/-- the floats from 2^-j on are multiples of 2^-(52+j) -/
theorem grid_Rp {w : Rat} {j : Nat} (hj : j ≤ 100) (f : Rp w) (h : 1 / 2 ^ j ≤ w) : Gd (52 + j) w := by
  obtain ⟨m, k, hm, e⟩ := f
  have hS : (S : Rat) = 2 ^ (52 + j) * ((2 ^ (1022 - j) : Nat) : Rat) := by
    unfold S; rw [pow_cast, pow_cast, ← pow_split, show 52 + j + (1022 - j) = 1074 by omega]
  have pp : (0 : Rat) < ((2 ^ (1022 - j) : Nat) : Rat) := Rat.natCast_pos.mpr (Nat.two_pow_pos _)
  rcases Nat.lt_or_ge k (1022 - j) with q | q
  · -- then x is the power itself
    have hjp : (0 : Rat) < 2 ^ j := Rat.pow_pos (by decide)
    have hlo : ((2 ^ 52 * 2 ^ (1022 - j) : Nat) : Rat) ≤ (m : Rat) * (2 ^ k : Nat) := by
      rw [← e, hS, Rat.natCast_mul, pow_cast 52, pow_split]
      have a := Rat.mul_le_mul_of_nonneg_right h (Rat.le_of_lt hjp)
      rw [Rat.div_mul_cancel (pow_ne j)] at a
      have b := Rat.mul_le_mul_of_nonneg_right a (show (0 : Rat) ≤ 2 ^ 52 * ((2 ^ (1022 - j) : Nat) : Rat) from Rat.mul_nonneg (by decide +kernel) (Rat.le_of_lt pp))
      generalize ((2 ^ (1022 - j) : Nat) : Rat) = z at *
      generalize (2 : Rat) ^ j = y at *
      grind
    have m0 : 0 ≤ m := by
      rcases Int.lt_or_le m 0 with p | p
      · exfalso
        have : (m : Rat) ≤ 0 := by have := icast_le (show m ≤ 0 by omega); simpa using this
        have p2 : (0 : Rat) ≤ ((2 ^ k : Nat) : Rat) := Rat.natCast_nonneg
        have := Rat.mul_le_mul_of_nonneg_right this p2
        have n : (0 : Rat) < ((2 ^ 52 * 2 ^ (1022 - j) : Nat) : Rat) := Rat.natCast_pos.mpr (Nat.mul_pos (Nat.two_pow_pos _) (Nat.two_pow_pos _))
        grind
      · exact p
    obtain ⟨n, rfl⟩ : ∃ n : Nat, m = n := ⟨m.toNat, by omega⟩
    rw [Rat.intCast_natCast, ← Rat.natCast_mul] at hlo
    have hlo := Rat.natCast_le_natCast.mp hlo
    have hn : n ≤ 2 ^ 53 := by omega
    have hk : k = 1021 - j := by
      rcases Nat.lt_or_ge k (1021 - j) with p | p
      · exfalso
        have a : n * 2 ^ k ≤ 2 ^ 53 * 2 ^ (1020 - j) := Nat.mul_le_mul hn (Nat.pow_le_pow_right (by decide) (by omega))
        have b : 2 ^ 53 * 2 ^ (1020 - j) < 2 ^ 52 * 2 ^ (1022 - j) := by
          rw [← Nat.pow_add, ← Nat.pow_add]
          exact Nat.pow_lt_pow_right (by decide) (by omega)
        exact absurd (Nat.le_trans hlo a) (Nat.not_le.mpr b)
      · omega
    subst hk
    have e3 : 2 ^ (1022 - j) = 2 * 2 ^ (1021 - j) := by rw [show 1022 - j = (1021 - j) + 1 by omega, Nat.pow_succ, Nat.mul_comm]
    have hn2 : n = 2 ^ 53 := by
      rw [e3, ← Nat.mul_assoc] at hlo
      have := Nat.le_of_mul_le_mul_right hlo (Nat.two_pow_pos _)
      omega
    refine ⟨2 ^ 52, ?_⟩
    apply cancelQ pp
    have : w * 2 ^ (52 + j) * ((2 ^ (1022 - j) : Nat) : Rat) = w * S := by rw [hS]; grind
    rw [this, e, hn2, e3, Rat.natCast_mul, Rat.intCast_natCast]
    have : ((2 ^ 53 : Nat) : Rat) = 2 * ((2 ^ 52 : Int) : Rat) := by decide +kernel
    rw [this, show ((2 : Nat) : Rat) = 2 from rfl]
    generalize ((2 ^ (1021 - j) : Nat) : Rat) = z
    generalize ((2 ^ 52 : Int) : Rat) = y
    grind
  · refine ⟨m * (2 ^ (k - (1022 - j)) : Nat), ?_⟩
    apply cancelQ pp
    have : w * 2 ^ (52 + j) * ((2 ^ (1022 - j) : Nat) : Rat) = w * S := by rw [hS]; grind
    have e4 : 2 ^ k = 2 ^ (k - (1022 - j)) * 2 ^ (1022 - j) := by rw [← Nat.pow_add, show k - (1022 - j) + (1022 - j) = k by omega]
    rw [this, e, e4, Rat.natCast_mul, Rat.intCast_mul, Rat.intCast_natCast]
    grind

theorem Rp_half {w : Rat} (f : Rp w) (h : 1 ≤ w) : Rp (w / 2) := by
  obtain ⟨m, k, hm, e⟩ := f
  cases k with
  | zero =>
    exfalso
    have hS : ((2 ^ 100 : Nat) : Rat) ≤ S := cast_le (by unfold S; exact Nat.pow_le_pow_right (by decide) (by decide))
    have m1 : (m : Rat) ≤ ((2 ^ 53 : Int) : Rat) := icast_le (by omega)
    have a := Rat.mul_le_mul_of_nonneg_right h (Rat.le_of_lt S_pos)
    rw [e] at a
    have : ((2 ^ 53 : Int) : Rat) < ((2 ^ 100 : Nat) : Rat) := by decide +kernel
    simp at a
    grind
  | succ k =>
    refine ⟨m, k, hm, ?_⟩
    rw [Nat.pow_succ, Rat.natCast_mul] at e
    change _ = (m : Rat) * (_ * 2) at e
    generalize ((2 ^ k : Nat) : Rat) = z at *
    generalize (S : Rat) = y at *
    grind
theorem Gd_dbl {k : Nat} {w : Rat} (g : Gd (k + 1) (w / 2)) : Gd k w := by
  obtain ⟨m, hm⟩ := g
  refine ⟨m, ?_⟩
  rw [← hm, pow_split, show (2 : Rat) ^ 1 = 2 by decide +kernel]; grind
theorem grid_two {w : Rat} (f : Rp w) (h : 2 ≤ w) : Gd 51 w := Gd_dbl (grid_Rp (j := 0) (by decide) (Rp_half f (by grind)) (by rw [show (2 : Rat) ^ 0 = 1 by decide +kernel]; grind))
theorem grid_four {w : Rat} (f : Rp w) (h : 4 ≤ w) : Gd 50 w := Gd_dbl (Gd_dbl (grid_Rp (j := 0) (by decide) (Rp_half (Rp_half f (by grind)) (by grind)) (by rw [show (2 : Rat) ^ 0 = 1 by decide +kernel]; grind)))
theorem grid_one {w : Rat} (f : Rp w) (h : 1 ≤ w) : Gd 52 w := grid_Rp (j := 0) (by decide) f (by rw [show (2 : Rat) ^ 0 = 1 by decide +kernel]; grind)
theorem grid_eq {k : Nat} {a b : Rat} (ga : Gd k a) (gb : Gd k b) (h1 : a - b < 1 / 2 ^ k) (h2 : b - a < 1 / 2 ^ k) : a = b := by
  have := (Gd.sub ga gb).tiny
  grind
/-- half a step below an even one -/
theorem tie {r : UInt64} {k N : Nat} (hk : k ≤ 200) (hN : N % 2 = 0) (h1 : 2 ^ 52 < N) (h2 : N ≤ 2 ^ 53) (h : Rd r (((N : Rat) - 1/2) / 2 ^ k)) (hf : FF r) : fv r = (N : Rat) / 2 ^ k := by
  obtain ⟨neg, t, e1, n1, p1⟩ := h.nr hf
  have hp : (0 : Rat) < 2 ^ k := Rat.pow_pos (by decide)
  have hNq : (1 : Rat) ≤ N := by have := cast_le (show 1 ≤ N by omega); exact this
  have qpos : 0 < ((N : Rat) - 1/2) / 2 ^ k := by
    have e : ((N : Rat) - 1/2) / 2 ^ k * 2 ^ k = (N : Rat) - 1/2 := Rat.div_mul_cancel (pow_ne k)
    exact Rat.lt_of_mul_lt_mul_right (c := (2 : Rat) ^ k) (by rw [e]; grind) (Rat.le_of_lt hp)
  have hneg : neg = false := by
    cases neg
    · rfl
    · simp at p1; grind
  subst hneg
  simp only [Bool.false_eq_true, if_false] at e1 n1
  have eS : (S : Rat) = 2 ^ k * ((2 ^ (1074 - k) : Nat) : Rat) := by
    unfold S; rw [pow_cast, pow_cast, ← pow_split, show k + (1074 - k) = 1074 by omega]
  have pK : (0 : Rat) < ((2 ^ (1074 - k) : Nat) : Rat) := Rat.natCast_pos.mpr (Nat.two_pow_pos _)
  have ex : ((N : Rat) - 1/2) / 2 ^ k * S = ((N : Rat) - 1/2) * ((2 ^ (1074 - k) : Nat) : Rat) := by
    rw [eS]
    have := pow_ne k
    generalize ((2 ^ (1074 - k) : Nat) : Rat) = z at *
    generalize (2 : Rat) ^ k = y at *
    grind
  rw [ex] at n1
  have v0 : V ((1074 - k) * 2 ^ 52 + N) = N * 2 ^ (1074 - k) := V_at h2 (.inl (by omega))
  have v1 : V ((1074 - k) * 2 ^ 52 + (N - 1)) = (N - 1) * 2 ^ (1074 - k) := V_at (by omega) (.inl (by omega))
  have cv0 : ((V ((1074 - k) * 2 ^ 52 + N) : Nat) : Rat) = (N : Rat) * ((2 ^ (1074 - k) : Nat) : Rat) := by rw [v0, Rat.natCast_mul]
  have cv1 : ((V ((1074 - k) * 2 ^ 52 + (N - 1)) : Nat) : Rat) = ((N : Rat) - 1) * ((2 ^ (1074 - k) : Nat) : Rat) := by
    rw [v1, Rat.natCast_mul]
    have : ((N - 1 : Nat) : Rat) = (N : Rat) - 1 := by
      have a : ((N - 1 + 1 : Nat) : Rat) = (N : Rat) := by rw [show N - 1 + 1 = N by omega]
      rw [Rat.natCast_add] at a
      change ((N - 1 : Nat) : Rat) + 1 = _ at a
      grind
    rw [this]
  have key : fv r * S = (N : Rat) * ((2 ^ (1074 - k) : Nat) : Rat) := by
    rw [e1]
    have a := n1.1 ((1074 - k) * 2 ^ 52 + N)
    rw [cv0] at a
    generalize hT0 : (1074 - k) * 2 ^ 52 + N = t0 at *
    have ht1 : (1074 - k) * 2 ^ 52 + (N - 1) = t0 - 1 := by omega
    rw [ht1] at cv1
    have ev : t0 % 2 = 0 := by omega
    have tpos : 1 ≤ t0 := by omega
    rcases Nat.lt_trichotomy t t0 with z | z | z
    · rcases Nat.lt_or_ge t (t0 - 1) with y | y
      · exfalso
        have m := vcast_lt (V_lt y)
        rw [cv1] at m
        generalize ((2 ^ (1074 - k) : Nat) : Rat) = zz at *
        unfold dd at a
        grind
      · exfalso
        have : t = t0 - 1 := by omega
        subst this
        have odd := n1.2 t0 (by have := V_lt (show t0 - 1 < t0 by omega); omega) (by
          rw [cv0, cv1]
          generalize ((2 ^ (1074 - k) : Nat) : Rat) = zz at *
          unfold dd
          grind)
        omega
    · rw [z, cv0]
    · exfalso
      have m := vcast_lt (V_lt z)
      rw [cv0] at m
      generalize ((2 ^ (1074 - k) : Nat) : Rat) = zz at *
      unfold dd at a
      grind
  apply cancelQ S_pos
  rw [key, eS]
  have := pow_ne k
  generalize ((2 ^ (1074 - k) : Nat) : Rat) = z at *
  generalize (2 : Rat) ^ k = y at *
  grind
end Mine

end
section
open PySem PySem.Float64
namespace Mine

/-- a way, a saturation, a value on the grid -/
structure Set12 (way s v low : UInt64) : Prop where
  fw : FF way
  fs : FF s
  fv' : FF v
  fl : FF low
  w0 : 0 ≤ fv way
  w1 : fv way ≤ 1/6 - 1/2^51
  s0 : 0 ≤ fv s
  s1 : fv s ≤ 1
  v0 : 0 ≤ fv v
  v1 : fv v ≤ 1
  el : fv low = fv v * (1 - fv s)
  gw : Gd 48 (fv way)
  gs : Gd 48 (fv s)
  gv : Gd 48 (fv v)
  gsw : Gd 48 (fv s * fv way)
  gvs : Gd 48 (fv v * fv s)
  gvsw : Gd 48 (fv v * fv s * fv way)

theorem u48 : (1 : Rat) * 2 ^ 48 ≤ 2 ^ 53 := by decide +kernel
theorem G6 {k : Nat} {q : Rat} (g : Gd k q) : Gd k (6 * q) := by
  obtain ⟨m, hm⟩ := g
  exact ⟨6 * m, by rw [Rat.intCast_mul, ← hm]; show 6 * q * 2 ^ k = (6 : Rat) * _; grind⟩
def Z12 (way s v low : UInt64) : Rat := fv low + 6 * (fv v * fv s * fv way)

theorem Set12.facts {way s v low : UInt64} (h : Set12 way s v low) : 0 ≤ fv v * fv s ∧ fv v * fv s ≤ fv v ∧ 0 ≤ fv s * fv way ∧ 6 * (fv s * fv way) ≤ fv s ∧ 0 ≤ fv v * fv s * fv way ∧ 6 * (fv v * fv s * fv way) ≤ fv v * fv s ∧ fv low = fv v - fv v * fv s := by
  have a := Rat.mul_nonneg h.v0 h.s0
  have b := Rat.mul_le_mul_of_nonneg_left h.s1 h.v0
  have c := Rat.mul_nonneg h.s0 h.w0
  have w16 : fv way ≤ 1/6 := by have := h.w1; grind
  have d := Rat.mul_le_mul_of_nonneg_left w16 h.s0
  have e := Rat.mul_nonneg a h.w0
  have f := Rat.mul_le_mul_of_nonneg_left w16 a
  have g := h.el
  exact ⟨a, by grind, c, by grind, e, by grind, by grind⟩
theorem Set12.gl {way s v low : UInt64} (h : Set12 way s v low) : Gd 48 (fv low) := by rw [h.facts.2.2.2.2.2.2]; exact Gd.sub h.gv h.gvs
theorem Set12.low0 {way s v low : UInt64} (h : Set12 way s v low) : 0 ≤ fv low ∧ fv low ≤ 1 ∧ fv low ≤ fv v := by
  have := h.facts; have := h.v1; grind

theorem p_exact {way s v low : UInt64} (h : Set12 way s v low) : FF (hsvP s v) ∧ fv (hsvP s v) = fv low := by
  obtain ⟨a, b, _, _, _, _, e⟩ := h.facts
  obtain ⟨l0, l1, l2⟩ := h.low0
  have hs0 := h.s0; have hs1 := h.s1
  unfold hsvP
  have r := Rd_sub fv1.1 h.fs
  rw [fv1.2] at r
  obtain ⟨f1, _⟩ := r.err1 (by grind) (by grind)
  have e1 := r.exact f1 (RpG (k := 48) (B := 1) (by decide) (Gd.sub Gd_one h.gs) (by grind) (by grind) u48)
  have r2 := Rd_mul h.fv' f1
  rw [e1, ← h.el] at r2
  obtain ⟨f2, _⟩ := r2.err1 (by grind) l1
  exact ⟨f2, r2.exact f2 (RpG (k := 48) (B := 1) (by decide) h.gl (by grind) l1 u48)⟩
/-- v * (1 - w), all on the grid -/
theorem one_exact {way s v low w : UInt64} (h : Set12 way s v low) (fw : FF w) (ew : fv w = fv s - 6 * (fv s * fv way)) : FF (Float64.mul v (Float64.sub 4607182418800017408 w)) ∧ fv (Float64.mul v (Float64.sub 4607182418800017408 w)) = Z12 way s v low := by
  obtain ⟨a, b, c, d, e, f, g⟩ := h.facts
  obtain ⟨l0, l1, l2⟩ := h.low0
  have hs0 := h.s0; have hs1 := h.s1; have hv1 := h.v1
  have r := Rd_sub fv1.1 fw
  rw [fv1.2, ew] at r
  obtain ⟨f1, _⟩ := r.err1 (by grind) (by grind)
  have e1 := r.exact f1 (RpG (k := 48) (B := 1) (by decide) (Gd.sub Gd_one (Gd.sub h.gs (G6 h.gsw))) (by grind) (by grind) u48)
  have r2 := Rd_mul h.fv' f1
  have ez : fv v * (1 - (fv s - 6 * (fv s * fv way))) = Z12 way s v low := by unfold Z12; rw [h.el]; grind
  rw [e1, ez] at r2
  have zb : 0 ≤ Z12 way s v low ∧ Z12 way s v low ≤ 1 := by unfold Z12; exact ⟨by grind, by grind⟩
  obtain ⟨f2, _⟩ := r2.err1 (by grind) zb.2
  exact ⟨f2, r2.exact f2 (RpG (k := 48) (B := 1) (by decide) (by unfold Z12; exact Gd.add h.gl (G6 h.gvsw)) (by grind) zb.2 u48)⟩
theorem q_exact {way s v low f : UInt64} (h : Set12 way s v low) (ff : FF f) (ef : fv f = 1 - 6 * fv way) : FF (hsvQ s v f) ∧ fv (hsvQ s v f) = Z12 way s v low := by
  obtain ⟨a, b, c, d, e, _⟩ := h.facts
  have hs0 := h.s0; have hs1 := h.s1
  unfold hsvQ
  have r := Rd_mul h.fs ff
  rw [ef, show fv s * (1 - 6 * fv way) = fv s - 6 * (fv s * fv way) by grind] at r
  obtain ⟨f1, _⟩ := r.err1 (by grind) (by grind)
  have e1 := r.exact f1 (RpG (k := 48) (B := 1) (by decide) (Gd.sub h.gs (G6 h.gsw)) (by grind) (by grind) u48)
  exact one_exact h f1 e1
theorem t_exact {way s v low f : UInt64} (h : Set12 way s v low) (ff : FF f) (ef : fv f = 6 * fv way) : FF (hsvT s v f) ∧ fv (hsvT s v f) = Z12 way s v low := by
  have hw0 := h.w0; have hw1 := h.w1
  obtain ⟨a, b, c, d, e, _⟩ := h.facts
  have hs0 := h.s0; have hs1 := h.s1
  unfold hsvT
  have r0 := Rd_sub fv1.1 ff
  rw [fv1.2, ef] at r0
  obtain ⟨f0, _⟩ := r0.err1 (by grind) (by grind)
  have e0 := r0.exact f0 (RpG (k := 48) (B := 1) (by decide) (Gd.sub Gd_one (G6 h.gw)) (by grind) (by grind) u48)
  have r := Rd_mul h.fs f0
  rw [e0, show fv s * (1 - 6 * fv way) = fv s - 6 * (fv s * fv way) by grind] at r
  obtain ⟨f1, _⟩ := r.err1 (by grind) (by grind)
  have e1 := r.exact f1 (RpG (k := 48) (B := 1) (by decide) (Gd.sub h.gs (G6 h.gsw)) (by grind) (by grind) u48)
  exact one_exact h f1 e1
theorem ramp_exact {way s v low x : UInt64} (h : Set12 way s v low) (fx : FF x) (ex : fv x = fv way) :
    FF (Float64.add low (Float64.mul (Float64.mul (Float64.sub v low) x) 4618441417868443648)) ∧ fv (Float64.add low (Float64.mul (Float64.mul (Float64.sub v low) x) 4618441417868443648)) = Z12 way s v low := by
  obtain ⟨a, b, c, d, e, f, g⟩ := h.facts
  obtain ⟨l0, l1, l2⟩ := h.low0
  have hv1 := h.v1
  have r := Rd_sub h.fv' h.fl
  rw [g, show fv v - (fv v - fv v * fv s) = fv v * fv s by grind] at r
  obtain ⟨f1, _⟩ := r.err1 (by grind) (by grind)
  have e1 := r.exact f1 (RpG (k := 48) (B := 1) (by decide) h.gvs (by grind) (by grind) u48)
  have r2 := Rd_mul f1 fx
  rw [e1, ex] at r2
  obtain ⟨f2, _⟩ := r2.err1 (by grind) (by grind)
  have e2 := r2.exact f2 (RpG (k := 48) (B := 1) (by decide) h.gvsw (by grind) (by grind) u48)
  have r3 := Rd_mul f2 k6.1
  rw [e2, k6.2, Rat.mul_comm] at r3
  obtain ⟨f3, _⟩ := r3.err1 (by grind) (by grind)
  have e3 := r3.exact f3 (RpG (k := 48) (B := 1) (by decide) (G6 h.gvsw) (by grind) (by grind) u48)
  have r4 := Rd_add h.fl f3
  rw [e3] at r4
  obtain ⟨f4, _⟩ := r4.err1 (by grind) (by grind)
  exact ⟨f4, r4.exact f4 (RpG (k := 48) (B := 1) (by decide) (Gd.add h.gl (G6 h.gvsw)) (by grind) (by grind) u48)⟩

-- the curve
theorem v_top {way s v low a : UInt64} (h : Set12 way s v low) (f : FF a) (h0 : 6004799503160661 / 2^55 ≤ fv (mod1 a)) (h1 : fv (mod1 a) < 1/2) : FF (vF low v a) ∧ fv (vF low v a) = fv v := by
  unfold vF; rw [vT_m2 (mod1_spec f).1 h0 h1]; exact ⟨h.fv', rfl⟩
theorem v_low {way s v low a : UInt64} (h : Set12 way s v low) (f : FF a) (h0 : 6004799503160661 / 2^53 ≤ fv (mod1 a)) : FF (vF low v a) ∧ fv (vF low v a) = fv low := by
  unfold vF; rw [vT_m1 (mod1_spec f).1 h0]; exact ⟨h.fl, rfl⟩
theorem v_up {way s v low a : UInt64} (h : Set12 way s v low) (f : FF a) (e : fv (mod1 a) = fv way) : FF (vF low v a) ∧ fv (vF low v a) = Z12 way s v low := by
  have hw := h.w1
  unfold vF; rw [vT_eq (mod1_spec f).1, if_pos (by rw [e]; grind)]
  exact ramp_exact h (mod1_spec f).1 e
theorem v_dn {way s v low a : UInt64} (h : Set12 way s v low) (f : FF a) (e : fv (mod1 a) = 6004799503160661 / 2^53 - fv way) : FF (vF low v a) ∧ fv (vF low v a) = Z12 way s v low := by
  have hw := h.w1
  have hw0 := h.w0
  have fm := (mod1_spec f).1
  by_cases z : fv way = 0
  · have hz : Z12 way s v low = fv low := by unfold Z12; rw [z]; grind
    rw [hz]
    exact v_low h f (by rw [e, z]; grind)
  unfold vF
  rw [vT_eq fm, if_neg (by rw [e]; grind), if_neg (by rw [e]; grind), if_pos (by rw [e]; grind)]
  have r := Rd_sub k23.1 fm
  rw [k23.2, e, show 6004799503160661 / 2^53 - (6004799503160661 / 2^53 - fv way) = fv way by grind] at r
  obtain ⟨fx, _⟩ := r.err1 (by grind) (by grind)
  exact ramp_exact h fx (r.exact fx (Rp_fv h.fw))

/-- hsv_to_rgb by its sixth -/
theorem hsv_n {h : UInt64} {n : Int} {φ : Rat} (f6 : FF (h6F h)) (e : fv (h6F h) = n + φ) (n0 : 0 ≤ n) (n1 : n ≤ 6) (p0 : 0 ≤ φ) (p1 : φ < 1) : truncF (h6F h) = n ∧ FF (hsvF h) ∧ fv (hsvF h) = φ := by
  have nn : (0 : Rat) ≤ n := by have := icast_le n0; simpa using this
  have y0 : 0 ≤ fv (h6F h) := by rw [e]; grind
  have ht := trunc_fv f6 y0
  have hfl : (fv (h6F h)).floor = n := floor_of (by grind) (by grind)
  rw [hfl] at ht
  have hfr := frac_Rp f6 y0
  rw [hfl] at hfr
  obtain ⟨fi, ei⟩ := int_exact (a := n) (by omega) (by omega)
  refine ⟨ht, ?_⟩
  unfold hsvF
  rw [ht]
  have rf := Rd_sub f6 fi
  rw [ei] at rf
  have ep : fv (h6F h) - (n : Rat) = φ := by rw [e]; grind
  rw [ep] at rf hfr
  obtain ⟨ff, _⟩ := rf.err1 (by grind) (by grind)
  exact ⟨ff, rf.exact ff hfr⟩

/-- what law 12 asks of a hue -/
structure P12 (s v low hue blue : UInt64) : Prop where
  f6 : FF (h6F hue)
  t0 : 0 ≤ truncF (h6F hue)
  t1 : truncF (h6F hue) ≤ 2 ^ 60
  r : (Float64.cmp (hsvR hue s v) (vF low v (Float64.add hue 4599676419421066581)) == some .eq) = true
  g : (Float64.cmp (hsvG hue s v) (vF low v hue) == some .eq) = true
  b : (Float64.cmp (hsvB hue s v) (vF low v blue) == some .eq) = true

theorem ceq' {x y : UInt64} {q : Rat} (hx : FF x ∧ fv x = q) (hy : FF y ∧ fv y = q) : (Float64.cmp x y == some .eq) = true := by rw [cmp_eq hx.1 hy.1]; simp [hx.2, hy.2]

/-- six values by the sixth -/
theorem p12_of {way s v low hue blue : UInt64} {n : Int} {φ R G B : Rat} (h : Set12 way s v low) (f6 : FF (h6F hue)) (e : fv (h6F hue) = n + φ) (n0 : 0 ≤ n) (n1 : n ≤ 6) (p0 : 0 ≤ φ) (p1 : φ < 1) (fh : FF (Float64.add hue 4599676419421066581)) (fhh : FF hue) (fb : FF blue)
    (hR : ¬ fv s = 0 → FF (pick (n % 6) v (hsvQ s v (hsvF hue)) (hsvP s v) (hsvP s v) (hsvT s v (hsvF hue)) v) ∧ fv (pick (n % 6) v (hsvQ s v (hsvF hue)) (hsvP s v) (hsvP s v) (hsvT s v (hsvF hue)) v) = R)
    (hG : ¬ fv s = 0 → FF (pick (n % 6) (hsvT s v (hsvF hue)) v v (hsvQ s v (hsvF hue)) (hsvP s v) (hsvP s v)) ∧ fv (pick (n % 6) (hsvT s v (hsvF hue)) v v (hsvQ s v (hsvF hue)) (hsvP s v) (hsvP s v)) = G)
    (hB : ¬ fv s = 0 → FF (pick (n % 6) (hsvP s v) (hsvP s v) (hsvT s v (hsvF hue)) v v (hsvQ s v (hsvF hue))) ∧ fv (pick (n % 6) (hsvP s v) (hsvP s v) (hsvT s v (hsvF hue)) v v (hsvQ s v (hsvF hue))) = B)
    (dR : FF (vF low v (Float64.add hue 4599676419421066581)) ∧ fv (vF low v (Float64.add hue 4599676419421066581)) = R) (dG : FF (vF low v hue) ∧ fv (vF low v hue) = G) (dB : FF (vF low v blue) ∧ fv (vF low v blue) = B) : P12 s v low hue blue := by
  obtain ⟨ht, _⟩ := hsv_n f6 e n0 n1 p0 p1
  refine ⟨f6, by rw [ht]; exact n0, by rw [ht]; omega, ?_, ?_, ?_⟩
  all_goals
    by_cases z : fv s = 0
    · have ev : fv low = fv v := by rw [h.el, z]; grind
      first
      | (unfold hsvR; rw [cmp_eq h.fs fv0.1, fv0.2, if_pos (by simpa using z)]; have q := vF_flat (a := Float64.add hue 4599676419421066581) h.low0.1 h.low0.2.1 h.fl h.fv' fh ev.symm; exact ceq' ⟨h.fv', rfl⟩ ⟨q.1, q.2.trans ev⟩)
      | (unfold hsvG; rw [cmp_eq h.fs fv0.1, fv0.2, if_pos (by simpa using z)]; have q := vF_flat (a := hue) h.low0.1 h.low0.2.1 h.fl h.fv' fhh ev.symm; exact ceq' ⟨h.fv', rfl⟩ ⟨q.1, q.2.trans ev⟩)
      | (unfold hsvB; rw [cmp_eq h.fs fv0.1, fv0.2, if_pos (by simpa using z)]; have q := vF_flat (a := blue) h.low0.1 h.low0.2.1 h.fl h.fv' fb ev.symm; exact ceq' ⟨h.fv', rfl⟩ ⟨q.1, q.2.trans ev⟩)
    · first
      | (unfold hsvR; rw [cmp_eq h.fs fv0.1, fv0.2, if_neg (by simpa using z), ht]; exact ceq' (hR z) dR)
      | (unfold hsvG; rw [cmp_eq h.fs fv0.1, fv0.2, if_neg (by simpa using z), ht]; exact ceq' (hG z) dG)
      | (unfold hsvB; rw [cmp_eq h.fs fv0.1, fv0.2, if_neg (by simpa using z), ht]; exact ceq' (hB z) dB)
end Mine

end
section
open PySem PySem.Float64
namespace Mine

theorem gT : Gd 54 (6004799503160661 / 2^54) := ⟨6004799503160661, by decide +kernel⟩
theorem gT2 : Gd 53 (6004799503160661 / 2^53) := ⟨6004799503160661, by decide +kernel⟩
theorem e54 : (1/2 : Rat) * 2 ^ 54 ≤ 2 ^ 53 := by decide +kernel
theorem e53 : (1 : Rat) * 2 ^ 53 ≤ 2 ^ 53 := by decide +kernel
theorem e50 : (7 : Rat) * 2 ^ 48 ≤ 2 ^ 53 := by decide +kernel
/-- a way that is not 0 is a step of the grid at least -/
theorem Set12.pos {way s v low : UInt64} (h : Set12 way s v low) (z : ¬ fv way = 0) : 1 / 2^48 ≤ fv way := by
  have := h.gw.tiny
  have := h.w0
  grind
theorem Gd_n {k : Nat} (n : Int) : Gd k (n : Rat) := ⟨n * (2 ^ k : Nat), by rw [Rat.intCast_mul, Rat.intCast_natCast, pow_cast]⟩
theorem Gd_2 {k : Nat} : Gd k 2 := Gd_n 2
theorem Gd_4 {k : Nat} : Gd k 4 := Gd_n 4
theorem Gd_6 {k : Nat} : Gd k 6 := Gd_n 6

/-- 6 h by a tie -/
theorem h6_tie {way s v low hue : UInt64} {c : Rat} {k e : Nat} (h : Set12 way s v low) (fh : FF hue) (hk : (k = 52 ∧ e = 16 ∧ c = 2) ∨ (k = 51 ∧ e = 8 ∧ c = 4)) (eh : fv hue * 6 = c - 1 / 2 / 2 ^ k - 6 * fv way) : FF (h6F hue) ∧ fv (h6F hue) = c - 6 * fv way := by
  have hw0 := h.w0; have hw1 := h.w1
  have r := Rd_mul fh k6.1
  rw [k6.2, eh] at r
  have fin : FF (h6F hue) := by
    rcases hk with ⟨rfl, _, rfl⟩ | ⟨rfl, _, rfl⟩ <;> exact (r.err8 (by grind) (by grind)).1
  refine ⟨fin, ?_⟩
  obtain ⟨m, hm⟩ := G6 h.gw
  have m0 : 0 ≤ m := by
    have : (0 : Rat) ≤ m := by rw [← hm]; grind
    have := Rat.intCast_le_intCast (a := 0) (b := m) |>.mp (by rw [Rat.intCast_zero]; exact this)
    exact this
  have m1 : m < 2 ^ 48 := by
    have : (m : Rat) < ((2 ^ 48 : Int) : Rat) := by rw [← hm, Rat.intCast_pow]; show 6 * fv way * 2 ^ 48 < (2 : Rat) ^ 48; grind
    exact Rat.intCast_lt_intCast.mp this
  obtain ⟨n, rfl⟩ : ∃ n : Nat, m = n := ⟨m.toNat, by omega⟩
  have hn : n < 2 ^ 48 := by omega
  rw [Rat.intCast_natCast] at hm
  rcases hk with ⟨rfl, rfl, rfl⟩ | ⟨rfl, rfl, rfl⟩
  · have cN : ((2 ^ 53 - 16 * n : Nat) : Rat) = 2 ^ 53 - 16 * (n : Rat) := by
      have a : ((2 ^ 53 - 16 * n + 16 * n : Nat) : Rat) = ((2 ^ 53 : Nat) : Rat) := by rw [Nat.sub_add_cancel (by omega)]
      rw [Rat.natCast_add, Rat.natCast_mul, pow_cast 53] at a
      change _ + (16 : Rat) * _ = _ at a
      grind
    have t := tie (r := h6F hue) (k := 52) (N := 2 ^ 53 - 16 * n) (by decide) (by omega) (by omega) (by omega) (by rw [cN]; rw [show (2 ^ 53 - 16 * (n : Rat) - 1/2) / 2 ^ 52 = 2 - 1/2/2^52 - 6 * fv way by rw [← hm]; grind]; exact r) fin
    rw [t, cN, ← hm]; grind
  · have cN : ((2 ^ 53 - 8 * n : Nat) : Rat) = 2 ^ 53 - 8 * (n : Rat) := by
      have a : ((2 ^ 53 - 8 * n + 8 * n : Nat) : Rat) = ((2 ^ 53 : Nat) : Rat) := by rw [Nat.sub_add_cancel (by omega)]
      rw [Rat.natCast_add, Rat.natCast_mul, pow_cast 53] at a
      change _ + (8 : Rat) * _ = _ at a
      grind
    have t := tie (r := h6F hue) (k := 51) (N := 2 ^ 53 - 8 * n) (by decide) (by omega) (by omega) (by omega) (by rw [cN]; rw [show (2 ^ 53 - 8 * (n : Rat) - 1/2) / 2 ^ 51 = 4 - 1/2/2^51 - 6 * fv way by rw [← hm]; grind]; exact r) fin
    rw [t, cN, ← hm]; grind
theorem pick0 {a0 a1 a2 a3 a4 a5 : UInt64} : pick (0 % 6) a0 a1 a2 a3 a4 a5 = a0 := rfl
theorem pick1 {a0 a1 a2 a3 a4 a5 : UInt64} : pick (1 % 6) a0 a1 a2 a3 a4 a5 = a1 := rfl
theorem pick2 {a0 a1 a2 a3 a4 a5 : UInt64} : pick (2 % 6) a0 a1 a2 a3 a4 a5 = a2 := rfl
theorem pick3 {a0 a1 a2 a3 a4 a5 : UInt64} : pick (3 % 6) a0 a1 a2 a3 a4 a5 = a3 := rfl
theorem pick4 {a0 a1 a2 a3 a4 a5 : UInt64} : pick (4 % 6) a0 a1 a2 a3 a4 a5 = a4 := rfl
theorem pick5 {a0 a1 a2 a3 a4 a5 : UInt64} : pick (5 % 6) a0 a1 a2 a3 a4 a5 = a5 := rfl
theorem pick6 {a0 a1 a2 a3 a4 a5 : UInt64} : pick (6 % 6) a0 a1 a2 a3 a4 a5 = a0 := rfl

/-- the hue is the way -/
theorem c1 {way s v low : UInt64} (h : Set12 way s v low) : P12 s v low way (Float64.sub way 4599676419421066581) := by
  have w0 := h.w0; have w1 := h.w1
  have r6 := Rd_mul h.fw k6.1
  rw [k6.2, Rat.mul_comm] at r6
  obtain ⟨f6, _⟩ := r6.err1 (by grind) (by grind)
  have e6 : fv (h6F way) = ((0 : Int) : Rat) + 6 * fv way := by
    rw [Rat.intCast_zero, show (0 : Rat) + 6 * fv way = 6 * fv way by grind]
    exact r6.exact f6 (RpG (k := 48) (B := 1) (by decide) (G6 h.gw) (by grind) (by grind) u48)
  obtain ⟨_, ff, ef⟩ := hsv_n f6 e6 (by decide) (by decide) (by grind) (by grind)
  have ra := Rd_add h.fw k3i.1
  rw [k3i.2] at ra
  obtain ⟨fa, _⟩ := ra.err1 (by grind) (by grind)
  have ea := ra.exact fa (RpG (k := 54) (B := 1/2) (by decide) (Gd.add (h.gw.more (by decide)) gT) (by grind) (by grind) e54)
  have rs := Rd_sub h.fw k3i.1
  rw [k3i.2] at rs
  obtain ⟨fs, _⟩ := rs.err1 (by grind) (by grind)
  have es := rs.exact fs (RpG (k := 54) (B := 1/2) (by decide) (Gd.sub (h.gw.more (by decide)) gT) (by grind) (by grind) e54)
  have ma := mod1_in fa (by grind) (by grind)
  have mw := mod1_in h.fw w0 (by grind)
  have ms := mod1_dn fs (by grind) (by grind)
  refine p12_of (R := fv v) (G := Z12 way s v low) (B := fv low) h f6 e6 (by decide) (by decide) (by grind) (by grind) fa h.fw fs ?_ ?_ ?_ ?_ ?_ ?_
  · intro _; rw [pick0]; exact ⟨h.fv', rfl⟩
  · intro _; rw [pick0]; exact t_exact h ff ef
  · intro _; rw [pick0]; exact p_exact h
  · exact v_top h fa (by rw [ma, ea]; grind) (by rw [ma, ea]; grind)
  · exact v_up h h.fw mw
  · exact v_low h fs (by rw [es] at ms; grind)

/-- a third less the way -/
theorem c2 {way s v low : UInt64} (h : Set12 way s v low) : P12 s v low (Float64.sub 4599676419421066581 way) (Float64.sub (Float64.sub 4599676419421066581 way) 4599676419421066581) := by
  have w0 := h.w0; have w1 := h.w1
  have rh := Rd_sub k3i.1 h.fw
  rw [k3i.2] at rh
  obtain ⟨fh, _⟩ := rh.err1 (by grind) (by grind)
  have eh := rh.exact fh (RpG (k := 54) (B := 1/2) (by decide) (Gd.sub gT (h.gw.more (by decide))) (by grind) (by grind) e54)
  generalize Float64.sub 4599676419421066581 way = hue at *
  obtain ⟨f6, e6⟩ := h6_tie (hue := hue) (c := 2) (k := 52) (e := 16) h fh (.inl ⟨rfl, rfl, rfl⟩) (by rw [eh]; grind)
  have ra := Rd_add fh k3i.1
  rw [k3i.2, eh] at ra
  obtain ⟨fa, _⟩ := ra.err1 (by grind) (by grind)
  have ea := ra.exact fa (by
    rw [show 6004799503160661 / 2^54 - fv way + 6004799503160661 / 2^54 = 6004799503160661 / 2^53 - fv way by grind]
    exact RpG (k := 53) (B := 1) (by decide) (Gd.sub gT2 (h.gw.more (by decide))) (by grind) (by grind) e53)
  have rs := Rd_sub fh k3i.1
  rw [k3i.2, eh, show 6004799503160661 / 2^54 - fv way - 6004799503160661 / 2^54 = -fv way by grind] at rs
  obtain ⟨fs, _⟩ := rs.err1 (by grind) (by grind)
  have es := rs.exact fs (RpG (k := 48) (B := 1) (by decide) (by have := Gd.sub (Gd_n (k := 48) 0) h.gw; rwa [Rat.intCast_zero, show (0 : Rat) - fv way = -fv way by grind] at this) (by grind) (by grind) u48)
  have ma := mod1_in fa (by grind) (by grind)
  have mh := mod1_in fh (by grind) (by grind)
  have ea' : fv (mod1 (Float64.add hue 4599676419421066581)) = 6004799503160661 / 2^53 - fv way := by rw [ma, ea]; grind
  by_cases z : fv way = 0
  · have hz : Z12 way s v low = fv low := by unfold Z12; rw [z]; grind
    have e6' : fv (h6F hue) = ((2 : Int) : Rat) + 0 := by rw [e6, z, show ((2 : Int) : Rat) = 2 from rfl]; grind
    obtain ⟨_, ff, ef⟩ := hsv_n f6 e6' (by decide) (by decide) (by decide) (by decide)
    have ms := mod1_in fs (by rw [es, z]; decide) (by rw [es, z]; decide)
    refine p12_of (R := fv low) (G := fv v) (B := Z12 way s v low) h f6 e6' (by decide) (by decide) (by decide) (by decide) fa fh fs ?_ ?_ ?_ ?_ ?_ ?_
    · intro _; rw [pick2]; exact p_exact h
    · intro _; rw [pick2]; exact ⟨h.fv', rfl⟩
    · intro _; rw [pick2]; exact t_exact h ff (by rw [ef, z]; grind)
    · exact v_low h fa (by rw [ea', z]; grind)
    · exact v_top h fh (by rw [mh, eh]; grind) (by rw [mh, eh]; grind)
    · exact v_up h fs (by rw [ms, es, z]; grind)
  · have wp := h.pos z
    have e6' : fv (h6F hue) = ((1 : Int) : Rat) + (1 - 6 * fv way) := by rw [e6, Rat.intCast_one]; grind
    obtain ⟨_, ff, ef⟩ := hsv_n f6 e6' (by decide) (by decide) (by grind) (by grind)
    have ms := mod1_dn fs (by grind) (by grind)
    refine p12_of (R := Z12 way s v low) (G := fv v) (B := fv low) h f6 e6' (by decide) (by decide) (by grind) (by grind) fa fh fs ?_ ?_ ?_ ?_ ?_ ?_
    · intro _; rw [pick1]; exact q_exact h ff ef
    · intro _; rw [pick1]; exact ⟨h.fv', rfl⟩
    · intro _; rw [pick1]; exact p_exact h
    · exact v_dn h fa ea'
    · exact v_top h fh (by rw [mh, eh]; grind) (by rw [mh, eh]; grind)
    · exact v_low h fs (by rw [es] at ms; grind)

/-- a third and the way -/
theorem c3 {way s v low : UInt64} (h : Set12 way s v low) : P12 s v low (Float64.add 4599676419421066581 way) (Float64.sub (Float64.add 4599676419421066581 way) 4599676419421066581) := by
  have w0 := h.w0; have w1 := h.w1
  have rh := Rd_add k3i.1 h.fw
  rw [k3i.2] at rh
  obtain ⟨fh, _⟩ := rh.err1 (by grind) (by grind)
  have eh := rh.exact fh (RpG (k := 54) (B := 1/2) (by decide) (Gd.add gT (h.gw.more (by decide))) (by grind) (by grind) e54)
  generalize Float64.add 4599676419421066581 way = hue at *
  have h6 : FF (h6F hue) ∧ fv (h6F hue) = ((2 : Int) : Rat) + 6 * fv way := by
    rw [show ((2 : Int) : Rat) = 2 from rfl]
    by_cases z : fv way = 0
    · obtain ⟨f6, e6⟩ := h6_tie (hue := hue) (c := 2) (k := 52) (e := 16) h fh (.inl ⟨rfl, rfl, rfl⟩) (by rw [eh, z]; grind)
      exact ⟨f6, by rw [e6, z]; grind⟩
    · have wp := h.pos z
      have r6 := Rd_mul fh k6.1
      rw [k6.2, eh] at r6
      obtain ⟨f6, _⟩ := r6.err8 (by grind) (by grind)
      have gN : Gd 48 (2 + 6 * fv way) := Gd.add Gd_2 (G6 h.gw)
      have two : Rp 2 := by rw [← k2.2]; exact Rp_fv k2.1
      have lo := r6.ge f6 two (by grind)
      have nr := r6.near f6 (d := 1/2^53) (RpG (k := 48) (B := 7) (by decide) gN (by grind) (by grind) e50) (by grind) (by grind)
      refine ⟨f6, grid_eq (k := 51) (grid_two (Rp_fv f6) lo) (gN.more (by decide)) ?_ ?_⟩
      · have := nr.1; change fv (h6F hue) - _ ≤ _ at this; grind
      · have := nr.2; change _ - fv (h6F hue) ≤ _ at this; grind
  obtain ⟨f6, e6⟩ := h6
  obtain ⟨_, ff, ef⟩ := hsv_n f6 e6 (by decide) (by decide) (by grind) (by grind)
  have ra := Rd_add fh k3i.1
  rw [k3i.2, eh] at ra
  obtain ⟨fa, _⟩ := ra.err1 (by grind) (by grind)
  have ea := ra.exact fa (by
    rw [show 6004799503160661 / 2^54 + fv way + 6004799503160661 / 2^54 = 6004799503160661 / 2^53 + fv way by grind]
    exact RpG (k := 53) (B := 1) (by decide) (Gd.add gT2 (h.gw.more (by decide))) (by grind) (by grind) e53)
  have rs := Rd_sub fh k3i.1
  rw [k3i.2, eh, show 6004799503160661 / 2^54 + fv way - 6004799503160661 / 2^54 = fv way by grind] at rs
  obtain ⟨fs, _⟩ := rs.err1 (by grind) (by grind)
  have es := rs.exact fs (Rp_fv h.fw)
  have ma := mod1_in fa (by grind) (by grind)
  have mh := mod1_in fh (by grind) (by grind)
  have ms := mod1_in fs (by grind) (by grind)
  refine p12_of (R := fv low) (G := fv v) (B := Z12 way s v low) h f6 e6 (by decide) (by decide) (by grind) (by grind) fa fh fs ?_ ?_ ?_ ?_ ?_ ?_
  · intro _; rw [pick2]; exact p_exact h
  · intro _; rw [pick2]; exact ⟨h.fv', rfl⟩
  · intro _; rw [pick2]; exact t_exact h ff ef
  · exact v_low h fa (by rw [ma, ea]; grind)
  · exact v_top h fh (by rw [mh, eh]; grind) (by rw [mh, eh]; grind)
  · exact v_up h fs (by rw [ms, es])

/-- two thirds less the way -/
theorem c4 {way s v low : UInt64} (h : Set12 way s v low) : P12 s v low (Float64.sub 4604180019048437077 way) (Float64.sub (Float64.sub 4604180019048437077 way) 4599676419421066581) := by
  have w0 := h.w0; have w1 := h.w1
  have rh := Rd_sub k23.1 h.fw
  rw [k23.2] at rh
  obtain ⟨fh, _⟩ := rh.err1 (by grind) (by grind)
  have eh := rh.exact fh (RpG (k := 53) (B := 1) (by decide) (Gd.sub gT2 (h.gw.more (by decide))) (by grind) (by grind) e53)
  generalize Float64.sub 4604180019048437077 way = hue at *
  obtain ⟨f6, e6⟩ := h6_tie (hue := hue) (c := 4) (k := 51) (e := 8) h fh (.inr ⟨rfl, rfl, rfl⟩) (by rw [eh]; grind)
  have ra := Rd_add fh k3i.1
  rw [k3i.2, eh] at ra
  obtain ⟨fa, a1, a2⟩ := ra.err1 (by grind) (by grind)
  have al := ra.le fa one_Rp (by grind)
  have rs := Rd_sub fh k3i.1
  rw [k3i.2, eh, show 6004799503160661 / 2^53 - fv way - 6004799503160661 / 2^54 = 6004799503160661 / 2^54 - fv way by grind] at rs
  obtain ⟨fs, _⟩ := rs.err1 (by grind) (by grind)
  have es := rs.exact fs (RpG (k := 54) (B := 1/2) (by decide) (Gd.sub gT (h.gw.more (by decide))) (by grind) (by grind) e54)
  have mh := mod1_in fh (by grind) (by grind)
  have ms := mod1_in fs (by grind) (by grind)
  have vG := v_dn h fh (by rw [mh, eh])
  have vB := v_top h fs (by rw [ms, es]; grind) (by rw [ms, es]; grind)
  by_cases z : fv way = 0
  · have hz : Z12 way s v low = fv low := by unfold Z12; rw [z]; grind
    have e6' : fv (h6F hue) = ((4 : Int) : Rat) + 0 := by rw [e6, z, show ((4 : Int) : Rat) = 4 from rfl]; grind
    obtain ⟨_, ff, ef⟩ := hsv_n f6 e6' (by decide) (by decide) (by decide) (by decide)
    have vR : FF (vF low v (Float64.add hue 4599676419421066581)) ∧ fv (vF low v (Float64.add hue 4599676419421066581)) = fv low := by
      by_cases o : fv (Float64.add hue 4599676419421066581) = 1
      · have := mod1_up fa (by rw [o]; decide) (by rw [o]; decide)
        have q := v_up h fa (by rw [this, o, z]; grind)
        rwa [hz] at q
      · have ma := mod1_in fa (by grind) (by grind)
        exact v_low h fa (by rw [ma]; grind)
    refine p12_of (R := Z12 way s v low) (G := fv low) (B := fv v) h f6 e6' (by decide) (by decide) (by decide) (by decide) fa fh fs ?_ ?_ ?_ ?_ ?_ ?_
    · intro _; rw [pick4]; exact t_exact h ff (by rw [ef, z]; grind)
    · intro _; rw [pick4]; exact p_exact h
    · intro _; rw [pick4]; exact ⟨h.fv', rfl⟩
    · rw [hz]; exact vR
    · rw [← hz]; exact vG
    · exact vB
  · have wp := h.pos z
    have e6' : fv (h6F hue) = ((3 : Int) : Rat) + (1 - 6 * fv way) := by rw [e6, show ((3 : Int) : Rat) = 3 from rfl]; grind
    obtain ⟨_, ff, ef⟩ := hsv_n f6 e6' (by decide) (by decide) (by grind) (by grind)
    have ma := mod1_in fa (by grind) (by grind)
    refine p12_of (R := fv low) (G := Z12 way s v low) (B := fv v) h f6 e6' (by decide) (by decide) (by grind) (by grind) fa fh fs ?_ ?_ ?_ ?_ ?_ ?_
    · intro _; rw [pick3]; exact p_exact h
    · intro _; rw [pick3]; exact q_exact h ff ef
    · intro _; rw [pick3]; exact ⟨h.fv', rfl⟩
    · exact v_low h fa (by rw [ma]; grind)
    · exact vG
    · exact vB

/-- two thirds and the way -/
theorem c5 {way s v low : UInt64} (h : Set12 way s v low) : P12 s v low (Float64.add 4604180019048437077 way) (Float64.sub (Float64.add 4604180019048437077 way) 4599676419421066581) := by
  have w0 := h.w0; have w1 := h.w1
  have rh := Rd_add k23.1 h.fw
  rw [k23.2] at rh
  obtain ⟨fh, _⟩ := rh.err1 (by grind) (by grind)
  have eh := rh.exact fh (RpG (k := 53) (B := 1) (by decide) (Gd.add gT2 (h.gw.more (by decide))) (by grind) (by grind) e53)
  generalize Float64.add 4604180019048437077 way = hue at *
  have h6 : FF (h6F hue) ∧ fv (h6F hue) = ((4 : Int) : Rat) + 6 * fv way := by
    rw [show ((4 : Int) : Rat) = 4 from rfl]
    by_cases z : fv way = 0
    · obtain ⟨f6, e6⟩ := h6_tie (hue := hue) (c := 4) (k := 51) (e := 8) h fh (.inr ⟨rfl, rfl, rfl⟩) (by rw [eh, z]; grind)
      exact ⟨f6, by rw [e6, z]; grind⟩
    · have wp := h.pos z
      have r6 := Rd_mul fh k6.1
      rw [k6.2, eh] at r6
      obtain ⟨f6, _⟩ := r6.err8 (by grind) (by grind)
      have gN : Gd 48 (4 + 6 * fv way) := Gd.add Gd_4 (G6 h.gw)
      have four : Rp 4 := by rw [← k4.2]; exact Rp_fv k4.1
      have lo := r6.ge f6 four (by grind)
      have nr := r6.near f6 (d := 1/2^52) (RpG (k := 48) (B := 7) (by decide) gN (by grind) (by grind) e50) (by grind) (by grind)
      refine ⟨f6, grid_eq (k := 50) (grid_four (Rp_fv f6) lo) (gN.more (by decide)) ?_ ?_⟩
      · have := nr.1; change fv (h6F hue) - _ ≤ _ at this; grind
      · have := nr.2; change _ - fv (h6F hue) ≤ _ at this; grind
  obtain ⟨f6, e6⟩ := h6
  obtain ⟨_, ff, ef⟩ := hsv_n f6 e6 (by decide) (by decide) (by grind) (by grind)
  have ra := Rd_add fh k3i.1
  rw [k3i.2, eh] at ra
  obtain ⟨fa, a1, a2⟩ := ra.err2 (by grind) (by grind)
  have rs := Rd_sub fh k3i.1
  rw [k3i.2, eh, show 6004799503160661 / 2^53 + fv way - 6004799503160661 / 2^54 = 6004799503160661 / 2^54 + fv way by grind] at rs
  obtain ⟨fs, _⟩ := rs.err1 (by grind) (by grind)
  have es := rs.exact fs (RpG (k := 54) (B := 1/2) (by decide) (Gd.add gT (h.gw.more (by decide))) (by grind) (by grind) e54)
  have mh := mod1_in fh (by grind) (by grind)
  have ms := mod1_in fs (by grind) (by grind)
  have vR : FF (vF low v (Float64.add hue 4599676419421066581)) ∧ fv (vF low v (Float64.add hue 4599676419421066581)) = Z12 way s v low := by
    by_cases z : fv way = 0
    · have hz : Z12 way s v low = fv low := by unfold Z12; rw [z]; grind
      have al := ra.le fa one_Rp (by rw [z]; grind)
      by_cases o : fv (Float64.add hue 4599676419421066581) = 1
      · have := mod1_up fa (by rw [o]; decide) (by rw [o]; decide)
        exact v_up h fa (by rw [this, o, z]; grind)
      · have ma := mod1_in fa (by grind) (by grind)
        rw [hz]
        exact v_low h fa (by rw [ma]; grind)
    · have wp := h.pos z
      have gN : Gd 48 (1 + fv way) := Gd.add Gd_one h.gw
      have lo := ra.ge fa one_Rp (by grind)
      have nr := ra.near fa (d := 1/2^54) (RpG (k := 48) (B := 7) (by decide) gN (by grind) (by grind) e50) (by grind) (by grind)
      have e1 : fv (Float64.add hue 4599676419421066581) = 1 + fv way := grid_eq (k := 52) (grid_one (Rp_fv fa) lo) (gN.more (by decide)) (by grind) (by grind)
      have := mod1_up fa (by grind) (by grind)
      exact v_up h fa (by rw [this, e1]; grind)
  refine p12_of (R := Z12 way s v low) (G := fv low) (B := fv v) h f6 e6 (by decide) (by decide) (by grind) (by grind) fa fh fs ?_ ?_ ?_ ?_ ?_ ?_
  · intro _; rw [pick4]; exact t_exact h ff ef
  · intro _; rw [pick4]; exact p_exact h
  · intro _; rw [pick4]; exact ⟨h.fv', rfl⟩
  · exact vR
  · exact v_low h fh (by rw [mh, eh]; grind)
  · exact v_top h fs (by rw [ms, es]; grind) (by rw [ms, es]; grind)

/-- a turn less the way -/
theorem c6 {way s v low : UInt64} (h : Set12 way s v low) : P12 s v low (Float64.sub 4607182418800017408 way) (Float64.sub 4604180019048437077 way) := by
  have w0 := h.w0; have w1 := h.w1
  have rh := Rd_sub fv1.1 h.fw
  rw [fv1.2] at rh
  obtain ⟨fh, _⟩ := rh.err1 (by grind) (by grind)
  have eh := rh.exact fh (RpG (k := 48) (B := 1) (by decide) (Gd.sub Gd_one h.gw) (by grind) (by grind) u48)
  generalize Float64.sub 4607182418800017408 way = hue at *
  have r6 := Rd_mul fh k6.1
  rw [k6.2, eh, show (1 - fv way) * 6 = 6 - 6 * fv way by grind] at r6
  obtain ⟨f6, _⟩ := r6.err8 (by grind) (by grind)
  have e6 := r6.exact f6 (RpG (k := 48) (B := 7) (by decide) (Gd.sub Gd_6 (G6 h.gw)) (by grind) (by grind) e50)
  change fv (h6F hue) = _ at e6
  have ra := Rd_add fh k3i.1
  rw [k3i.2, eh] at ra
  obtain ⟨fa, a1, a2⟩ := ra.err2 (by grind) (by grind)
  have ma := mod1_up fa (by grind) (by grind)
  have rs := Rd_sub k23.1 h.fw
  rw [k23.2] at rs
  obtain ⟨fs, _⟩ := rs.err1 (by grind) (by grind)
  have es := rs.exact fs (RpG (k := 53) (B := 1) (by decide) (Gd.sub gT2 (h.gw.more (by decide))) (by grind) (by grind) e53)
  have ms := mod1_in fs (by grind) (by grind)
  have vR := v_top h fa (by rw [ma]; grind) (by rw [ma]; grind)
  have vB := v_dn h fs (by rw [ms, es])
  by_cases z : fv way = 0
  · have hz : Z12 way s v low = fv low := by unfold Z12; rw [z]; grind
    have e6' : fv (h6F hue) = ((6 : Int) : Rat) + 0 := by rw [e6, z, show ((6 : Int) : Rat) = 6 from rfl]; grind
    obtain ⟨_, ff, ef⟩ := hsv_n f6 e6' (by decide) (by decide) (by decide) (by decide)
    have mh := mod1_up fh (by rw [eh, z]; grind) (by rw [eh, z]; grind)
    have vG := v_up h fh (by rw [mh, eh, z]; grind)
    refine p12_of (R := fv v) (G := Z12 way s v low) (B := fv low) h f6 e6' (by decide) (by decide) (by decide) (by decide) fa fh fs ?_ ?_ ?_ ?_ ?_ ?_
    · intro _; rw [pick6]; exact ⟨h.fv', rfl⟩
    · intro _; rw [pick6]; exact t_exact h ff (by rw [ef, z]; grind)
    · intro _; rw [pick6]; exact p_exact h
    · exact vR
    · exact vG
    · rw [← hz]; exact vB
  · have wp := h.pos z
    have e6' : fv (h6F hue) = ((5 : Int) : Rat) + (1 - 6 * fv way) := by rw [e6, show ((5 : Int) : Rat) = 5 from rfl]; grind
    obtain ⟨_, ff, ef⟩ := hsv_n f6 e6' (by decide) (by decide) (by grind) (by grind)
    have mh := mod1_in fh (by grind) (by grind)
    refine p12_of (R := fv v) (G := fv low) (B := Z12 way s v low) h f6 e6' (by decide) (by decide) (by grind) (by grind) fa fh fs ?_ ?_ ?_ ?_ ?_ ?_
    · intro _; rw [pick5]; exact ⟨h.fv', rfl⟩
    · intro _; rw [pick5]; exact p_exact h
    · intro _; rw [pick5]; exact q_exact h ff ef
    · exact vR
    · exact v_low h fh (by rw [mh, eh]; grind)
    · exact vB
/-- which hues are the last one -/
theorem last_no {way s v low hue : UInt64} (h : Set12 way s v low) (fh : FF hue) (h1 : fv hue ≤ 5/6) : (Float64.cmp hue (Float64.sub 4607182418800017408 way) == some .eq) = false := by
  have w0 := h.w0; have w1 := h.w1
  have rh := Rd_sub fv1.1 h.fw
  rw [fv1.2] at rh
  obtain ⟨f, _⟩ := rh.err1 (by grind) (by grind)
  have e := rh.exact f (RpG (k := 48) (B := 1) (by decide) (Gd.sub Gd_one h.gw) (by grind) (by grind) u48)
  rw [cmp_eq fh f, e]
  exact decide_eq_false (by grind)
end Mine

end
section
open PySem PySem.Float64
namespace Mine

theorem p2cast (n : Nat) : ((2 ^ n : Int) : Rat) = (2 : Rat) ^ n := by rw [Rat.intCast_pow]; rfl
theorem fracP {n : Nat} (hn : n ≤ 48) {x : Int} (h0 : 0 ≤ x) (h1 : x ≤ 2 ^ n) : FF (divI x (2 ^ n)) ∧ fv (divI x (2 ^ n)) * 2 ^ n = x ∧ 0 ≤ fv (divI x (2 ^ n)) ∧ fv (divI x (2 ^ n)) ≤ 1 := by
  have hp : (0 : Int) < 2 ^ n := Int.pow_pos (by decide)
  have hle : (2 : Int) ^ n ≤ 2 ^ 48 := by
    have := Nat.pow_le_pow_right (n := 2) (by decide) hn
    exact_mod_cast this
  obtain ⟨ρ, e0, p0, p1, f, e1, e2, q0, q1⟩ := frac_err (t := 2 ^ n) (a := x) (by omega) h0 h1
  have r := Rd_frac (a := x) (b := 2 ^ n) (by omega)
  have hc : (x : Rat) / ((2 ^ n : Int) : Rat) * 2 ^ n = x := by rw [p2cast]; exact Rat.div_mul_cancel (pow_ne n)
  have e := r.exact f (Rp_grid (k := n) (m := x) (by omega) (by omega) hc)
  exact ⟨f, by rw [e]; exact hc, q0, q1⟩
theorem pow_mod3 (n : Nat) : (2 : Int) ^ n % 3 = 1 ∨ (2 : Int) ^ n % 3 = 2 := by
  induction n with
  | zero => left; rfl
  | succ n ih => rw [Int.pow_succ]; omega
theorem Set12.of {a b c : Nat} {W x y : Int} (habc : a + b + c = 48) (hW0 : 0 ≤ W) (hW1 : W ≤ 2 ^ a / 6) (hx0 : 0 ≤ x) (hx1 : x ≤ 2 ^ b) (hy0 : 0 ≤ y) (hy1 : y ≤ 2 ^ c) :
    Set12 (divI W (2 ^ a)) (divI x (2 ^ b)) (divI y (2 ^ c)) (divI (y * (2 ^ b - x)) (2 ^ (b + c))) := by
  have pa : (0 : Int) < 2 ^ a := Int.pow_pos (by decide)
  have pb : (0 : Int) < 2 ^ b := Int.pow_pos (by decide)
  have pc : (0 : Int) < 2 ^ c := Int.pow_pos (by decide)
  have l0 : 0 ≤ y * (2 ^ b - x) := Int.mul_nonneg hy0 (by omega)
  have l1 : y * (2 ^ b - x) ≤ 2 ^ (b + c) := by
    have : y * (2 ^ b - x) ≤ 2 ^ c * 2 ^ b := Int.mul_le_mul hy1 (by omega) (by omega) (by omega)
    rwa [← Int.pow_add, Nat.add_comm] at this
  obtain ⟨fw, ew, w0, w1⟩ := fracP (n := a) (by omega) hW0 (show W ≤ 2 ^ a by omega)
  obtain ⟨fs, es, s0, s1⟩ := fracP (n := b) (by omega) hx0 hx1
  obtain ⟨fy, ey, y0, y1⟩ := fracP (n := c) (by omega) hy0 hy1
  obtain ⟨fl, el, _, _⟩ := fracP (n := b + c) (by omega) l0 l1
  have gw : Gd a (fv (divI W (2 ^ a))) := ⟨W, ew⟩
  have gs : Gd b (fv (divI x (2 ^ b))) := ⟨x, es⟩
  have gy : Gd c (fv (divI y (2 ^ c))) := ⟨y, ey⟩
  refine ⟨fw, fs, fy, fl, w0, ?_, s0, s1, y0, y1, ?_, gw.more (by omega), gs.more (by omega), gy.more (by omega), (Gd.mul gs gw).more (by omega), (Gd.mul gy gs).more (by omega), (Gd.mul (Gd.mul gy gs) gw).more (by omega)⟩
  · have m3 := pow_mod3 a
    have : 6 * W + 1 ≤ 2 ^ a := by omega
    have := icast_le this
    rw [Rat.intCast_add, Rat.intCast_mul, Rat.intCast_one, p2cast, ← ew] at this
    change (6 : Rat) * _ + 1 ≤ _ at this
    have pA : (0 : Rat) < 2 ^ a := Rat.pow_pos (by decide)
    have pl := pow_mono2 (a := a) (b := 48) (by omega)
    apply Rat.le_of_mul_le_mul_right (c := (2 : Rat) ^ a) _ pA
    generalize (2 : Rat) ^ a = z at *
    have : z / 2^51 ≤ 1/8 := by grind
    grind
  · have pB : (0 : Rat) < 2 ^ b := Rat.pow_pos (by decide)
    have pC : (0 : Rat) < 2 ^ c := Rat.pow_pos (by decide)
    apply cancelQ (Rat.mul_pos pB pC)
    rw [pow_split] at el
    rw [el, Rat.intCast_mul, Rat.intCast_sub, p2cast, ← es, ← ey]
    grind

theorem n12 {way s v low : UInt64} (h : Set12 way s v low) : ∀ hue ∈ [way, Float64.sub 4599676419421066581 way, Float64.add 4599676419421066581 way, Float64.sub 4604180019048437077 way, Float64.add 4604180019048437077 way, Float64.sub 4607182418800017408 way],
    P12 s v low hue (if (Float64.cmp hue (Float64.sub 4607182418800017408 way) == some .eq) = true then Float64.sub 4604180019048437077 way else Float64.sub hue 4599676419421066581) := by
  have w0 := h.w0; have w1 := h.w1
  intro hue hm
  simp only [List.mem_cons, List.not_mem_nil, or_false] at hm
  have no : ∀ hue, FF hue → fv hue ≤ 5/6 → P12 s v low hue (Float64.sub hue 4599676419421066581) → P12 s v low hue (if (Float64.cmp hue (Float64.sub 4607182418800017408 way) == some .eq) = true then Float64.sub 4604180019048437077 way else Float64.sub hue 4599676419421066581) := fun hue f l p => by
    rw [last_no h f l]; exact p
  rcases hm with rfl | rfl | rfl | rfl | rfl | rfl
  · exact no _ h.fw (by grind) (c1 h)
  · have r := Rd_sub k3i.1 h.fw
    rw [k3i.2] at r
    obtain ⟨f, p, q⟩ := r.err1 (by grind) (by grind)
    exact no _ f (by grind) (c2 h)
  · have r := Rd_add k3i.1 h.fw
    rw [k3i.2] at r
    obtain ⟨f, p, q⟩ := r.err1 (by grind) (by grind)
    exact no _ f (by grind) (c3 h)
  · have r := Rd_sub k23.1 h.fw
    rw [k23.2] at r
    obtain ⟨f, p, q⟩ := r.err1 (by grind) (by grind)
    exact no _ f (by grind) (c4 h)
  · have r := Rd_add k23.1 h.fw
    rw [k23.2] at r
    obtain ⟨f, _⟩ := r.err1 (by grind) (by grind)
    have e := r.exact f (RpG (k := 53) (B := 1) (by decide) (Gd.add gT2 (h.gw.more (by decide))) (by grind) (by grind) e53)
    exact no _ f (by rw [e]; grind) (c5 h)
  · have rh := Rd_sub fv1.1 h.fw
    rw [fv1.2] at rh
    obtain ⟨f, _⟩ := rh.err1 (by grind) (by grind)
    rw [cmp_eq f f]
    simp only [decide_true, if_true]
    exact c6 h
theorem third_div : divI 1 3 = 4599676419421066581 := by decide +kernel
theorem two_div : divI 2 3 = 4604180019048437077 := by decide +kernel
theorem one_of : Float64.ofInt 1 = 4607182418800017408 := by decide +kernel
end Mine

end
open PySem PySem.W PySem.Calls PyProof.Rows PySem.SeqAt
set_option maxRecDepth 100000
set_option maxHeartbeats 40000000
namespace Mine
theorem eqL3 {a b c a' b' c' : UInt64} (h1 : (Float64.cmp a a' == some .eq) = true) (h2 : (Float64.cmp b b' == some .eq) = true) (h3 : (Float64.cmp c c' == some .eq) = true) : eqL [.flt a, .flt b, .flt c] [.flt a', .flt b', .flt c'] = some true := by
  simp only [eqL, eqD, h1, h2, h3, if_true, Bool.and_true]
theorem cell_get {cs : List Int} {k : Int} (h0 : 0 ≤ k) (h1 : k < cs.length) : ∃ x, (cs.map D.int)[k.toNat]? = some (.int x) := by
  have h : k.toNat < cs.length := by omega
  exact ⟨cs[k.toNat], by rw [List.getElem?_map, List.getElem?_eq_getElem h]; rfl⟩
theorem range03_get {n : Int} {i : Nat} {d : D} (h : (rangeD 0 n 3)[i]? = some d) : d = .int (3 * i) ∧ 3 * (i : Int) < n := by
  obtain ⟨e, hi⟩ := rangeD_get h
  refine ⟨by rw [e]; congr 1; omega, ?_⟩
  unfold Builtin.Range.rangeSize at hi
  rw [if_pos (by omega)] at hi
  split at hi <;> omega
theorem pow_bd {n : Int} (h0 : 0 ≤ n) (h1 : n ≤ 48) : (0 : Int) < 2 ^ n.toNat ∧ (2 : Int) ^ n.toNat ≤ 2 ^ 48 := by
  refine ⟨Int.pow_pos (by decide), ?_⟩
  have := Nat.pow_le_pow_right (n := 2) (by decide) (show n.toNat ≤ 48 by omega)
  exact_mod_cast this
theorem modP {x m : Int} (h : 0 < m) : 0 ≤ x % m ∧ x % m ≤ m - 1 := by
  have h0 := Int.emod_nonneg x (show m ≠ 0 by omega)
  have h1 := Int.emod_lt_of_pos x h
  omega
end Mine
open Mine
local macro_rules | `(tactic| walk_at "E") => `(tactic| first
  | ((with_reducible show WE _ _ _ _ _ _ (Expr.BinOp _ _ _ _) _); refine WE_binop ?_)
  | ((with_reducible show WE _ _ _ _ _ _ (Expr.Constant (Const.float _) _ _) _); refine WE_flt ?_)
  | ((with_reducible show WE _ _ _ _ _ _ (Expr.Constant (Const.int _) _ _) _); refine WE_int ?_)
  | ((with_reducible show WE _ _ _ _ _ _ (Expr.Constant (Const.bool _) _ _) _); refine WE_bool ?_)
  | ((with_reducible show WE _ _ _ _ _ _ (Expr.Name _ _) _); first | refine WE_name rfl ?_ | refine WE_name (by assumption) ?_ | refine WE_name (comp_get (by assumption)) ?_)
  | ((with_reducible show WE _ _ _ _ _ _ (Expr.Tuple _ _ _) _); refine WE_tuple ?_)
  | ((with_reducible show WE _ _ _ _ _ _ (Expr.List _ _) _); refine WE_list ?_)
  | ((with_reducible show WE _ _ _ _ _ _ (Expr.Subscript _ (Expr.Slice _ _ none _) _) _); refine WE_cut ?_)
  | ((with_reducible show WE _ _ _ _ _ _ (Expr.Subscript _ _ _) _); refine WE_item ?_)
  | ((with_reducible show WE _ _ _ _ _ _ (Expr.UnaryOp _ _ _) _); refine WE_unary ?_)
  | ((with_reducible show WP _ _ _ _ _ _ (some _) _); refine WP_some ?_)
  | ((with_reducible show WP _ _ _ _ _ _ none _); refine WP_none ?_)
  | ((with_reducible show WEs _ _ _ _ _ _ (_ :: _) _); refine WEs_cons ?_)
  | ((with_reducible show WEs _ _ _ _ _ _ [] _); refine WEs_nil ?_)
  | ((with_reducible show BO _ _ _ Operator.Mult (D.flt _) (D.flt _) _); refine BO_mul_ff ?_)
  | ((with_reducible show BO _ _ _ Operator.Add (D.flt _) (D.flt _) _); refine BO_add_ff ?_)
  | ((with_reducible show BO _ _ _ Operator.Sub (D.flt _) (D.flt _) _); refine BO_sub_ff ?_)
  | ((with_reducible show BO _ _ _ Operator.Add (D.int _) (D.int _) _); refine BO_add_ii ?_)
  | ((with_reducible show BO _ _ _ Operator.Sub (D.int _) (D.int _) _); refine BO_sub_ii ?_)
  | ((with_reducible show BO _ _ _ Operator.Mult (D.int _) (D.int _) _); refine BO_mul_ii (by first | exact mulL (by omega) (by omega) | exact mulR (by omega) (by omega)) ?_)
  | ((with_reducible show BO _ _ _ Operator.Pow (D.int _) (D.int _) _); first | refine BO_pow_eq pow16 (by decide) (by decide) ?_ | refine BO_pow_eq pow30 (by decide) (by decide) ?_ | refine BO_pow_eq pow31 (by decide) (by decide) ?_ | refine BO_pow_eq pow32 (by decide) (by decide) ?_ | refine BO_pow_eq pow36 (by decide) (by decide) ?_ | refine BO_pow_eq pow40 (by decide) (by decide) ?_ | refine BO_pow_eq pow41 (by decide) (by decide) ?_ | refine BO_pow_eq pow44 (by decide) (by decide) ?_ | refine BO_pow_eq pow45 (by decide) (by decide) ?_ | refine BO_pow_eq pow52 (by decide) (by decide) ?_ | refine BO_pow_eq pow53 (by decide) (by decide) ?_ | refine BO_pow_ii (by decide) (by decide) ?_ | refine BO_pow2 (by omega) (by omega) ?_)
  | ((with_reducible show BO _ _ _ Operator.Mod (D.int _) (D.int _) _); refine BO_mod_p (by omega) ?_)
  | ((with_reducible show BO _ _ _ Operator.FloorDiv (D.int _) (D.int _) _); refine BO_div_p (by omega) (by omega) ?_)
  | ((with_reducible show BO _ _ _ Operator.Add (D.lst _) (D.lst _) _); refine BO_add_ll (by first | (simp; done) | (simp; omega) | (refine Nat.le_trans (Nat.add_le_add_right (cut_length_le _ _ _) _) ?_; simp; omega)) ?_)
  | ((with_reducible show BO _ _ _ Operator.Div (D.int _) (D.int _) _); refine BO_div_s (Rm.handled (by first | assumption | apply_assumption)) (by omega) (by omega) (by omega) ?_)
  | ((with_reducible show BO _ _ _ Operator.Mult (D.int _) (D.flt _) _); refine BO_mul_s (by omega) (by omega) ?_)
  | ((with_reducible show IO _ _ _ (D.tup _) (D.int (OfNat.ofNat _)) _); refine IO_ti (by decide) rfl (by decide) ?_)
  | ((with_reducible show IO _ _ _ (D.lst (_ :: _)) (D.int (OfNat.ofNat _)) _); refine IO_li (by decide) rfl (by decide) ?_)
  | ((with_reducible show UO _ _ _ UnaryOp.USub (D.int _) _); refine UO_neg_i ?_)
  | ((with_reducible show IO _ _ _ (D.lst (List.map D.int _ ++ [D.int 0])) (D.int 0) _); refine IO_li (by decide) (first0_get _) (by decide) ?_))

theorem PySem.Challenge.cw_dm0025_12_holds : PySem.Challenge.rw_dm0025_12.Holds := by
  w_on; o_law; k_head; (case hw => w_witness2)
  k_fill
  intro w s₀ s₁ mg mb G Y fa o pm cd doc dV kV ho hd hcd hD hmg hg args vals as hpre hlay hrd hwl hlo
  have KX := kIn_of Y
  refine Ground.open G ?_
  intro T Bt Dt TE TW
  wrow_args hpre hlay hrd hwl hlo
  rename Well _ _ _ _ => hW
  rename ¬ (_ < _) => hlen
  have GB : Base s₁ mg mb := base_of KX T.g T.b T.builtins T.nolimit (by kernel_rfl)
  obtain ⟨f1, o1, pm1, cd1, doc1, hm1, ho1, hd1, hc1⟩ := T.fn _ (List.mem_of_find?_eq_some (p := fun e => decide (e.name = Str.ofString "_v")) (by with_unfolding_all rfl))
  obtain ⟨f2, o2, pm2, cd2, doc2, hm2, ho2, hd2, hc2⟩ := T.fn _ (List.mem_of_find?_eq_some (p := fun e => decide (e.name = Str.ofString "hsv_to_rgb")) (by with_unfolding_all rfl))
  have nlen : mg "len" = none := mg_none_of KX T.g (by kernel_rfl)
  have nrange : mg "range" = none := mg_none_of KX T.g (by kernel_rfl)
  have nint : mg "int" = none := mg_none_of KX T.g (by kernel_rfl)
  obtain ⟨t6, g6, n6⟩ : ∃ t, mg "ONE_SIXTH" = some (.float 4595172819793696085 t) ∧ t ≠ 0 := mg_flt KX T.g (by kernel_rfl)
  obtain ⟨t23, g23, n23⟩ : ∃ t, mg "TWO_THIRD" = some (.float 4604180019048437077 t) ∧ t ≠ 0 := mg_flt KX T.g (by kernel_rfl)
  have vv : ∀ A, Rm 1 A → ∀ m1 m2 hue, WC PySem.Challenge.rw_dm0025_12.row.prog w s₁ A (.ref f1) [.flt m1, .flt m2, .flt hue] (fun d => d = .flt (vF m1 m2 hue)) := by
    intro A hA m1 m2 hue
    refine WC_doc GB hm1 ho1 hd1 hc1 (names := [Str.ofString "m1", Str.ofString "m2", Str.ofString "hue"]) hA.room rfl ?_ ?_ ?_
    · intro vals hl
      match vals, hl with
      | [a, b, c], _ => rfl
    · intro L y hy; simp only [List.mem_cons, List.not_mem_nil, or_false] at hy
      rcases hy with rfl | rfl | rfl
      · exact .inl rfl
      · exact .inl rfl
      · exact .inl rfl
    · intro L
      refine WS_cons (WX_assign (.inl rfl) ?_)
      repeat walk_at "E"
      refine BO_mod_ff (by decide +kernel) ?_
      unfold vF vT
      show WS _ _ _ _ _ (Store.set _ _ (.dat (.flt (mod1 hue)))) _ _
      generalize mod1 hue = h
      refine WS_cons (WX_if (WT_compare ?_))
      repeat walk_at "E"
      refine WE_global GB rfl g6 (fun _ _ => rep_flt n6) ?_
      refine CO_lt_ff ?_
      cases h1 : (Float64.cmp h 4595172819793696085 == some .lt) with
      | true =>
        refine WS_cons (WX_return ?_)
        repeat walk_at "E"
        rfl
      | false =>
        refine WS_nil ?_
        refine WS_cons (WX_if (WT_compare ?_))
        repeat walk_at "E"
        refine CO_lt_ff ?_
        cases h2 : (Float64.cmp h 4602678819172646912 == some .lt) with
        | true =>
          refine WS_cons (WX_return ?_)
          repeat walk_at "E"
          rfl
        | false =>
          refine WS_nil ?_
          refine WS_cons (WX_if (WT_compare ?_))
          repeat walk_at "E"
          refine WE_global GB rfl g23 (fun _ _ => rep_flt n23) ?_
          refine CO_lt_ff ?_
          cases h3 : (Float64.cmp h 4604180019048437077 == some .lt) with
          | true =>
            refine WS_cons (WX_return ?_)
            repeat walk_at "E"
            refine WE_global GB rfl g23 (fun _ _ => rep_flt n23) ?_
            repeat walk_at "E"
            rfl
          | false =>
            refine WS_nil ?_
            refine WS_cons (WX_return ?_)
            repeat walk_at "E"
            rfl
  have fromHsv : ∀ A, Rm 1 A → ∀ h s v, Float64.isFinite (h6F h) = true → 0 ≤ truncF (h6F h) → truncF (h6F h) ≤ 2 ^ 60 → WC PySem.Challenge.rw_dm0025_12.row.prog w s₁ A (.ref f2) [.flt h, .flt s, .flt v] (fun d => d = .tup [.flt (hsvR h s v), .flt (hsvG h s v), .flt (hsvB h s v)]) := by
    intro A hA h s v f6 t0 t1
    refine WC_doc GB hm2 ho2 hd2 hc2 (names := [Str.ofString "h", Str.ofString "s", Str.ofString "v"]) hA.room rfl ?_ ?_ ?_
    · intro vals hl
      match vals, hl with
      | [a, b, c], _ => rfl
    · intro L y hy; simp only [List.mem_cons, List.not_mem_nil, or_false] at hy
      rcases hy with rfl | rfl | rfl
      · exact .inl rfl
      · exact .inl rfl
      · exact .inl rfl
    · intro L
      refine WS_cons (WX_if (WT_compare ?_))
      repeat walk_at "E"
      refine CO_eq_ff ?_
      unfold hsvR hsvG hsvB pick
      cases h1 : (Float64.cmp s 0 == some .eq) with
      | true =>
        refine WS_cons (WX_return ?_)
        repeat walk_at "E"
        exact ⟨by simp, rfl⟩
      | false =>
      refine WS_nil ?_
      refine WS_cons (WX_assign (.inl rfl) ?_)
      refine WE_call_type GB rfl nint (by with_unfolding_all rfl) ?_
      repeat walk_at "E"
      refine WC_int_f f6 ?_
      refine WS_cons (WX_assign (.inl rfl) ?_)
      repeat walk_at "E"
      refine BO_sub_fi (small1023 (by change _ < truncF (h6F h); omega) (by change truncF (h6F h) < _; omega)) ?_
      show WS _ _ _ _ _ (Store.set _ _ (.dat (.flt (hsvF h)))) _ _
      refine WS_cons (WX_assign (.inl rfl) ?_)
      repeat walk_at "E"
      show WS _ _ _ _ _ (Store.set _ _ (.dat (.flt (hsvP s v)))) _ _
      refine WS_cons (WX_assign (.inl rfl) ?_)
      repeat walk_at "E"
      show WS _ _ _ _ _ (Store.set _ _ (.dat (.flt (hsvQ s v (hsvF h))))) _ _
      refine WS_cons (WX_assign (.inl rfl) ?_)
      repeat walk_at "E"
      show WS _ _ _ _ _ (Store.set _ _ (.dat (.flt (hsvT s v (hsvF h))))) _ _
      refine WS_cons (WX_assign (.inl rfl) ?_)
      repeat walk_at "E"
      show WS _ _ _ _ _ (Store.set _ _ (.dat (.int (truncF (h6F h) % 6)))) _ _
      have m0 := Int.emod_nonneg (truncF (h6F h)) (show (6 : Int) ≠ 0 by decide)
      have m1 := Int.emod_lt_of_pos (truncF (h6F h)) (show (0 : Int) < 6 by decide)
      generalize truncF (h6F h) % 6 = m at m0 m1 ⊢
      generalize hsvT s v (hsvF h) = tt
      generalize hsvQ s v (hsvF h) = qq
      generalize hsvP s v = pp
      refine WS_cons (WX_if (WT_compare ?_))
      repeat walk_at "E"
      refine CO_eq_ii ?_
      cases e0 : (m == 0) with
      | true =>
        refine WS_cons (WX_return ?_)
        repeat walk_at "E"
        exact ⟨by simp, rfl⟩
      | false =>
      refine WS_nil ?_
      refine WS_cons (WX_if (WT_compare ?_))
      repeat walk_at "E"
      refine CO_eq_ii ?_
      cases e1 : (m == 1) with
      | true =>
        refine WS_cons (WX_return ?_)
        repeat walk_at "E"
        exact ⟨by simp, rfl⟩
      | false =>
      refine WS_nil ?_
      refine WS_cons (WX_if (WT_compare ?_))
      repeat walk_at "E"
      refine CO_eq_ii ?_
      cases e2 : (m == 2) with
      | true =>
        refine WS_cons (WX_return ?_)
        repeat walk_at "E"
        exact ⟨by simp, rfl⟩
      | false =>
      refine WS_nil ?_
      refine WS_cons (WX_if (WT_compare ?_))
      repeat walk_at "E"
      refine CO_eq_ii ?_
      cases e3 : (m == 3) with
      | true =>
        refine WS_cons (WX_return ?_)
        repeat walk_at "E"
        exact ⟨by simp, rfl⟩
      | false =>
      refine WS_nil ?_
      refine WS_cons (WX_if (WT_compare ?_))
      repeat walk_at "E"
      refine CO_eq_ii ?_
      cases e4 : (m == 4) with
      | true =>
        refine WS_cons (WX_return ?_)
        repeat walk_at "E"
        exact ⟨by simp, rfl⟩
      | false =>
      refine WS_nil ?_
      refine WS_cons (WX_if (WT_compare ?_))
      repeat walk_at "E"
      refine CO_eq_ii ?_
      cases e5 : (m == 5) with
      | true =>
        refine WS_cons (WX_return ?_)
        repeat walk_at "E"
        exact ⟨by simp, rfl⟩
      | false =>
      simp only [beq_eq_false_iff_ne] at e0 e1 e2 e3 e4 e5
      omega
  obtain rfl := hD.none rfl
  obtain rfl := hD.noKw
  refine wpAny_mono (law_call (n := Str.ofString "script") GB ⟨hmg, ⟨o, ho, hd⟩, hcd⟩ (Rm.caller.room) rfl rfl rfl rfl rfl rfl rfl rfl rfl rfl (well_ints hW) ?_) ?_ ?_
  · intro L
    have hA : ∀ env, Rm 19 (callerA.deeper env) := fun _ => Rm.caller.deeper _
    rename List Int => ns
    refine WS_cons (WX_assign (.inl rfl) ?_)
    repeat walk_at "E"
    refine ⟨_, rfl, _, rfl, by simp; omega, ?_⟩
    rw [cut_map]
    have hlen' : (cut ns none (some 63)).length ≤ 63 := Nat.le_trans (cut_length_le _ _ _) (by omega)
    generalize cut ns none (some 63) = ns' at hlen'
    refine WS_cons (WX.mono (Q := fun oo σ => oo = .next ∧ ∃ first : Int, σ "script" = some (.dat (.lst (ns'.map D.int))) ∧ σ "first" = some (.dat (.int first))) ?_ ?_)
    · refine WX_assign (.inl rfl) (WE_ifexp (WT_compare ?_))
      repeat walk_at "E"
      refine ⟨by simp, ?_⟩
      cases hns : ns' with
      | nil =>
        refine CO_ne_ll GB (hA _).cl (r := true) rfl ?_
        show WE _ _ _ _ _ _ _ _
        refine WE_int ?_
        exact ⟨rfl, 0, rfl, rfl⟩
      | cons x xs =>
        refine CO_ne_len (hA _).cl (by simp) ?_
        show WE _ _ _ _ _ _ _ _
        repeat walk_at "E"
        refine IO_li (by decide) rfl (by decide) ?_
        exact ⟨rfl, x, rfl, rfl⟩
    rintro oo σ ⟨rfl, first, s1, s2⟩
    refine WS_cons (WX_assign (.inl rfl) ?_)
    repeat walk_at "E"
    have ha0 : 0 ≤ (16 + first) % 49 ∧ (16 + first) % 49 ≤ 48 := by omega
    generalize (16 + first) % 49 = a at ha0
    refine WS_cons (WX_assign (.inl rfl) ?_)
    repeat walk_at "E"
    have hb0 := modP (x := 16 + first / 49) (m := 49 - a) (by omega)
    generalize (16 + first / 49) % (49 - a) = b at hb0
    refine WS_cons (WX_assign (.inl rfl) ?_)
    repeat walk_at "E"
    generalize hcc : 48 - a - b = c
    have hc0 : 0 ≤ c ∧ c ≤ 48 := by omega
    refine WS_cons (WX_assign (.inl rfl) ?_)
    repeat walk_at "E"
    refine ⟨by simp, ?_⟩
    repeat walk_at "E"
    refine ⟨_, rfl, _, rfl, by simp; omega, ?_⟩
    rw [cut_map]
    have hl1 : (cut ns' (some 1) none).length ≤ 63 := Nat.le_trans (cut_length_le _ _ _) hlen'
    generalize cut ns' (some 1) none = ms at hl1
    refine BO_add_ll (by simp; omega) ?_
    repeat walk_at "E"
    refine ⟨by simp, ?_⟩
    refine BO_add_ll (by simp; omega) ?_
    have hj : ∃ cs : List Int, ([D.int 2345, D.int 23458, D.int 34570, D.int 0, D.int 23458, D.int 34570, D.int 1, D.int (-1), D.int 34570] ++ ms.map D.int ++ [D.int 0, D.int 0]) = cs.map D.int ∧ 11 ≤ cs.length ∧ cs.length ≤ 80 := ⟨[2345, 23458, 34570, 0, 23458, 34570, 1, -1, 34570] ++ ms ++ [0, 0], by simp, by simp, by simp; omega⟩
    generalize ([D.int 2345, D.int 23458, D.int 34570, D.int 0, D.int 23458, D.int 34570, D.int 1, D.int (-1), D.int 34570] ++ ms.map D.int ++ [D.int 0, D.int 0]) = js at hj ⊢
    obtain ⟨cs, rfl, hcs0, hcs⟩ := hj
    obtain ⟨pa0, pa1⟩ := pow_bd ha0.1 ha0.2
    obtain ⟨pb0, pb1⟩ := pow_bd (n := b) (by omega) (by omega)
    obtain ⟨pc0, pc1⟩ := pow_bd hc0.1 hc0.2
    have hbc : (b + c).toNat = b.toNat + c.toNat := by omega
    have pbc : (2 : Int) ^ (b + c).toNat ≠ 0 := Int.ne_of_gt (Int.pow_pos (by decide))
    refine WS_cons (WX_for rfl (WI_range GB (hA _).handled rfl nrange ?_))
    repeat walk_at "E"
    refine WE_call_builtin GB rfl nlen (by with_unfolding_all rfl) ?_
    repeat walk_at "E"
    refine WC_len_l (by simp; omega) ?_
    repeat walk_at "E"
    refine ⟨0, _, 3, .inr (.inr rfl), by decide, by simp; omega, by decide, ?_⟩
    rw [List.length_map]
    refine LoopP_all (fun i σ => σ "cells" = some (.dat (.lst (cs.map D.int))) ∧ σ "a" = some (.dat (.int a)) ∧ σ "b" = some (.dat (.int b)) ∧ σ "c" = some (.dat (.int c))) ?_ ⟨rfl, rfl, rfl, rfl⟩ ?_
    · rintro i d σ hd ⟨k1, k2, k3, k4⟩
      obtain ⟨rfl, hi⟩ := range03_get hd
      obtain ⟨x1, e1⟩ := cell_get (cs := cs) (k := 3 * i) (by omega) (by omega)
      obtain ⟨x2, e2⟩ := cell_get (cs := cs) (k := 3 * i + 1) (by omega) (by omega)
      obtain ⟨x3, e3⟩ := cell_get (cs := cs) (k := 3 * i + 2) (by omega) (by omega)
      have hw := modP (x := x1) (m := 2 ^ a.toNat / 6 + 1) (by omega)
      have hs := modP (x := 2 ^ b.toNat - x2) (m := 2 ^ b.toNat + 1) (by omega)
      have hv := modP (x := 2 ^ c.toNat - x3) (m := 2 ^ c.toNat + 1) (by omega)
      refine ⟨_, WA_name (.inl rfl), ?_⟩
      refine WS_cons (WX_assign (.inl rfl) ?_)
      repeat walk_at "E"
      refine IO_li (by omega) e1 (by omega) ?_
      repeat walk_at "E"
      refine WS_cons (WX_assign (.inl rfl) ?_)
      repeat walk_at "E"
      refine IO_li (by omega) e2 (by omega) ?_
      repeat walk_at "E"
      refine WS_cons (WX_assign (.inl rfl) ?_)
      repeat walk_at "E"
      refine IO_li (by omega) e3 (by omega) ?_
      repeat walk_at "E"
      have hS := Set12.of (a := a.toNat) (b := b.toNat) (c := c.toNat) (by omega) hw.1 (by omega) hs.1 (by omega) hv.1 (by omega)
      generalize x1 % (2 ^ a.toNat / 6 + 1) = W at hw hS ⊢
      generalize (2 ^ b.toNat - x2) % (2 ^ b.toNat + 1) = x at hs hS ⊢
      generalize (2 ^ c.toNat - x3) % (2 ^ c.toNat + 1) = y at hv hS ⊢
      have hq0 : 0 ≤ y * (2 ^ b.toNat - x) := Int.mul_nonneg hv.1 (by omega)
      have hq1 : y * (2 ^ b.toNat - x) ≤ 2 ^ 48 * 2 ^ 48 := Int.mul_le_mul (by omega) (by omega) (by omega) (by omega)
      refine WS_cons (WX_assign (.inl rfl) ?_)
      repeat walk_at "E"
      rw [hbc]
      refine WS_cons (WX_assign (.inl rfl) ?_)
      repeat walk_at "E"
      have hN := n12 hS
      generalize divI W (2 ^ a.toNat) = way at hN ⊢
      generalize divI (y * (2 ^ b.toNat - x)) (2 ^ (b.toNat + c.toNat)) = low at hN ⊢
      generalize divI y (2 ^ c.toNat) = top at hN ⊢
      refine WS_cons (WX_for rfl (WI_lst (hA _).handled ?_))
      repeat walk_at "E"
      refine BO_sub_if (by decide) ?_
      repeat walk_at "E"
      refine ⟨by simp, _, rfl, ?_⟩
      rw [third_div, two_div, one_of]
      refine LoopP_all (fun i σ => σ "cells" = some (.dat (.lst (cs.map D.int))) ∧ σ "a" = some (.dat (.int a)) ∧ σ "b" = some (.dat (.int b)) ∧ σ "c" = some (.dat (.int c)) ∧ σ "way" = some (.dat (.flt way)) ∧ σ "low" = some (.dat (.flt low)) ∧ σ "top" = some (.dat (.flt top)) ∧ σ "s" = some (.dat (.int x))) ?_ ⟨k1, k2, k3, k4, rfl, rfl, rfl, rfl⟩ ?_
      · rintro j d σ hd ⟨k1, k2, k3, k4, k5, k6, k7, k8⟩
        have hd := List.mem_of_getElem? hd
        have hab : ∃ hue, d = .flt hue ∧ P12 (divI x (2 ^ b.toNat)) top low hue (if (Float64.cmp hue (Float64.sub 4607182418800017408 way) == some .eq) = true then Float64.sub 4604180019048437077 way else Float64.sub hue 4599676419421066581) := by
          simp only [List.mem_cons, List.not_mem_nil, or_false] at hd
          rcases hd with rfl | rfl | rfl | rfl | rfl | rfl <;> exact ⟨_, rfl, hN _ (by simp)⟩
        clear hd
        obtain ⟨hue, rfl, hP⟩ := hab
        refine ⟨_, WA_name (.inl rfl), ?_⟩
        refine WS_cons (WX_assign (.inl rfl) ?_)
        repeat walk_at "E"
        rw [third_div]
        refine WS_cons (WX_if_put (u := Float64.sub hue 4599676419421066581) (v := Float64.sub 4604180019048437077 way) (b := Float64.cmp hue (Float64.sub 4607182418800017408 way) == some .eq) (.inl rfl) rfl ?_ ?_ ?_)
        · refine WT_compare ?_
          repeat walk_at "E"
          refine BO_sub_if (by decide) ?_
          rw [one_of]
          exact CO_eq_ff rfl
        · repeat walk_at "E"
          rw [two_div]
        generalize (if (Float64.cmp hue (Float64.sub 4607182418800017408 way) == some .eq) = true then Float64.sub 4604180019048437077 way else Float64.sub hue 4599676419421066581) = blue at hP ⊢
        refine WS_cons (WX_assign (.inl rfl) ?_)
        refine WE_tuple ?_
        refine WEs_cons ?_
        refine WE_call_doc GB hm1 ho1 hd1 hc1 rfl ?_
        repeat walk_at "E"
        rw [third_div]
        refine WC.mono (vv _ (hA _).less _ _ _) ?_
        rintro d rfl
        refine WEs_cons ?_
        refine WE_call_doc GB hm1 ho1 hd1 hc1 rfl ?_
        repeat walk_at "E"
        refine WC.mono (vv _ (hA _).less _ _ _) ?_
        rintro d rfl
        refine WEs_cons ?_
        refine WE_call_doc GB hm1 ho1 hd1 hc1 rfl ?_
        repeat walk_at "E"
        refine WC.mono (vv _ (hA _).less _ _ _) ?_
        rintro d rfl
        repeat walk_at "E"
        refine ⟨by simp, ?_⟩
        refine WS_cons (WX_if (WT_compare ?_))
        refine WE_call_doc GB hm2 ho2 hd2 hc2 rfl ?_
        repeat walk_at "E"
        refine WC.mono (fromHsv _ (hA _).less _ _ _ hP.f6 hP.t0 hP.t1) ?_
        rintro d rfl
        repeat walk_at "E"
        refine CO_ne_tt GB (hA _).cl (r := true) (eqL3 hP.r hP.g hP.b) ?_
        show WS _ _ _ _ _ _ _ _
        refine WS_nil ?_
        exact WS_nil ⟨rfl, k1, k2, k3, k4, k5, k6, k7, k8⟩
      · rintro σ ⟨k1, k2, k3, k4, _⟩
        exact WS_nil ⟨rfl, k1, k2, k3, k4⟩
    · intro σ _
      refine WS_cons (WX_return ?_)
      repeat walk_at "E"
      rfl
  · rintro u s' ⟨rfl, h1, h2, h3⟩
    exact good_true hg h1 h2 h3
  · exact fun _ _ f => f.elim

