import PyProof.Rows.All
import Wide.All
import OpenK.AllK
import Wide.FinOn
import PySem.Challenge.RW_pa0012_01
set_option Elab.async false
set_option linter.unusedVariables false
set_option linter.unusedSimpArgs false
set_option compiler.extract_closed false
set_option genSizeOfSpec false
set_option genSizeOf false
set_option genInjectivity false
noncomputable section
open PySem PySem.Calls PySem.W PyProof.Rows
set_option maxRecDepth 100000
namespace Mine

/-- plain data -/
inductive D where
  | none
  | bool (b : Bool)
  | int (i : Int)
  | str (x : Str)
  | bytes (b : Array UInt8)
  | ty (n : String)
  | tup (ds : List D)
  | lst (ds : List D)
  | raw (v : Value)

noncomputable def PT (h : Heap) (a : Addr) (vs : Array Value) : Prop := ∃ o n, h.get? a = some o ∧ o.cls = .type "tuple" ∧ o.data = .seq vs n
theorem PT.isTuple {h : Heap} {a : Addr} {vs : Array Value} (x : PT h a vs) : h.IsTuple a vs := let ⟨o, n, e, c, d⟩ := x; ⟨o, e, c, n, d⟩
theorem PT.of {h : Heap} {a : Addr} {vs : Array Value} (x : h.IsTuple a vs) : PT h a vs := let ⟨o, e, c, n, d⟩ := x; ⟨o, n, e, c, d⟩
theorem PT.isTup {h : Heap} {a : Addr} {vs : Array Value} (x : PT h a vs) : IsTup h a vs := let ⟨o, n, e, c, d⟩ := x; ⟨o, e, c, n, d⟩

mutual
inductive Rep (h : Heap) : Value → D → Prop
  | none : Rep h .none .none
  | bool (b : Bool) : Rep h (.bool b) (.bool b)
  | int (i : Int) (t : Tok) : Rep h (.int i t) (.int i)
  | str (x : Str) (t : Tok) : Rep h (.str x t) (.str x)
  | bytes (b : Array UInt8) (t : Tok) : Rep h (.bytes b t) (.bytes b)
  | ty (n : String) : Rep h (.type n) (.ty n)
  | tup {a : Addr} {vs : Array Value} {ds : List D} : PT h a vs → RepL h vs.toList ds → Rep h (.ref a) (.tup ds)
  | lst {a : Addr} {vs : Array Value} {ds : List D} : h.PlainList a vs → RepL h vs.toList ds → Rep h (.ref a) (.lst ds)
  | raw (v : Value) : Rep h v (.raw v)
inductive RepL (h : Heap) : List Value → List D → Prop
  | nil : RepL h [] []
  | cons {v : Value} {vs : List Value} {d : D} {ds : List D} : Rep h v d → RepL h vs ds → RepL h (v :: vs) (d :: ds)
end

/-- every sequence object stays -/
noncomputable def SeqSub (h h' : Heap) : Prop := ∀ b o, h.get? b = some o → (∃ xs n, o.data = .seq xs n) → h'.get? b = some o

theorem SeqSub.of_stays {h h' : Heap} (k : h.StaysIn h') : SeqSub h h' := fun b o e _ => k b o e
theorem SeqSub.trans {h h' h'' : Heap} (k : SeqSub h h') (k' : SeqSub h' h'') : SeqSub h h'' := fun b o e q => k' b o (k b o e q) q

mutual
theorem Rep.mono {h h' : Heap} (k : SeqSub h h') : ∀ {v : Value} {d : D}, Rep h v d → Rep h' v d
  | _, _, .none => .none
  | _, _, .bool b => .bool b
  | _, _, .int i t => .int i t
  | _, _, .str x t => .str x t
  | _, _, .bytes b t => .bytes b t
  | _, _, .ty n => .ty n
  | _, _, .raw v => .raw v
  | _, _, .tup q r => .tup (let ⟨o, n, e, c, d⟩ := q; ⟨o, n, k _ _ e ⟨_, n, d⟩, c, d⟩) (RepL.mono k r)
  | _, _, .lst q r => .lst (let ⟨n, e⟩ := q; ⟨n, k _ _ e ⟨_, n, rfl⟩⟩) (RepL.mono k r)
theorem RepL.mono {h h' : Heap} (k : SeqSub h h') : ∀ {vs : List Value} {ds : List D}, RepL h vs ds → RepL h' vs ds
  | _, _, .nil => .nil
  | _, _, .cons q r => .cons (Rep.mono k q) (RepL.mono k r)
end

theorem Rep.stays {h h' : Heap} (k : h.StaysIn h') {v : Value} {d : D} (r : Rep h v d) : Rep h' v d := r.mono (.of_stays k)
theorem RepL.stays {h h' : Heap} (k : h.StaysIn h') {v : List Value} {d : List D} (r : RepL h v d) : RepL h' v d := r.mono (.of_stays k)

theorem RepL.length {h : Heap} : ∀ {vs : List Value} {ds : List D}, RepL h vs ds → vs.length = ds.length
  | _, _, .nil => rfl
  | _, _, .cons _ r => by rw [List.length_cons, List.length_cons, r.length]
theorem RepL.append {h : Heap} {ws : List Value} {es : List D} (k : RepL h ws es) : ∀ {vs : List Value} {ds : List D}, RepL h vs ds → RepL h (vs ++ ws) (ds ++ es)
  | _, _, .nil => k
  | _, _, .cons q r => .cons q (RepL.append k r)
theorem RepL.get {h : Heap} : ∀ {vs : List Value} {ds : List D}, RepL h vs ds → ∀ {i : Nat} {d : D}, ds[i]? = some d → ∃ v, vs[i]? = some v ∧ Rep h v d
  | _, _, .nil, i, d, e => by simp at e
  | _, _, .cons (v := v) q r, 0, d, e => by simp at e; subst e; exact ⟨v, rfl, q⟩
  | _, _, .cons q r, i + 1, d, e => by
    obtain ⟨v, hv, hr⟩ := r.get (i := i) (d := d) (by simpa using e)
    exact ⟨v, by simpa using hv, hr⟩
theorem RepL.take {h : Heap} : ∀ {vs : List Value} {ds : List D}, RepL h vs ds → ∀ n, RepL h (vs.take n) (ds.take n)
  | _, _, .nil, n => by simpa using RepL.nil
  | _, _, .cons q r, 0 => .nil
  | _, _, .cons q r, n + 1 => .cons q (r.take n)
theorem RepL.drop {h : Heap} : ∀ {vs : List Value} {ds : List D}, RepL h vs ds → ∀ n, RepL h (vs.drop n) (ds.drop n)
  | _, _, .nil, n => by simpa using RepL.nil
  | _, _, .cons q r, 0 => .cons q r
  | _, _, .cons q r, n + 1 => r.drop n
theorem RepL.reverse {h : Heap} : ∀ {vs : List Value} {ds : List D}, RepL h vs ds → RepL h vs.reverse ds.reverse
  | _, _, .nil => .nil
  | _, _, .cons q r => by rw [List.reverse_cons, List.reverse_cons]; exact RepL.append (.cons q .nil) r.reverse
theorem RepL.set {h : Heap} {w : Value} {e : D} (hw : Rep h w e) : ∀ {vs : List Value} {ds : List D}, RepL h vs ds → ∀ i, RepL h (vs.set i w) (ds.set i e)
  | _, _, .nil, _ => .nil
  | _, _, .cons _ r, 0 => .cons hw r
  | _, _, .cons q r, i + 1 => .cons q (r.set hw i)
theorem RepL.one {h : Heap} {v : Value} {d : D} (q : Rep h v d) : RepL h [v] [d] := .cons q .nil
/-! a case of what is known of a datum: each a lemma, since the built-in one lays out the nine cases anew each time -/
section
variable {h : Heap}
theorem Rep.noneE {motive : ∀ v, Rep h v .none → Prop} (none : motive _ .none) : ∀ {v : Value} (r : Rep h v .none), motive v r := by intro v r; cases r; exact none
theorem Rep.boolE {b : Bool} {motive : ∀ v, Rep h v (.bool b) → Prop} (bool : motive _ (.bool b)) : ∀ {v : Value} (r : Rep h v (.bool b)), motive v r := by intro v r; cases r; exact bool
theorem Rep.intE {i : Int} {motive : ∀ v, Rep h v (.int i) → Prop} (int : ∀ t, motive _ (.int i t)) : ∀ {v : Value} (r : Rep h v (.int i)), motive v r := by intro v r; cases r; exact int _
theorem Rep.strE {x : Str} {motive : ∀ v, Rep h v (.str x) → Prop} (str : ∀ t, motive _ (.str x t)) : ∀ {v : Value} (r : Rep h v (.str x)), motive v r := by intro v r; cases r; exact str _
theorem Rep.bytesE {b : Array UInt8} {motive : ∀ v, Rep h v (.bytes b) → Prop} (bytes : ∀ t, motive _ (.bytes b t)) : ∀ {v : Value} (r : Rep h v (.bytes b)), motive v r := by intro v r; cases r; exact bytes _
theorem Rep.tyE {n : String} {motive : ∀ v, Rep h v (.ty n) → Prop} (ty : motive _ (.ty n)) : ∀ {v : Value} (r : Rep h v (.ty n)), motive v r := by intro v r; cases r; exact ty
theorem Rep.tupE {ds : List D} {motive : ∀ v, Rep h v (.tup ds) → Prop} (tup : ∀ {a vs} (p : PT h a vs) (q : RepL h vs.toList ds), motive _ (.tup p q)) : ∀ {v : Value} (r : Rep h v (.tup ds)), motive v r := by intro v r; cases r with | tup p q => exact tup p q
theorem Rep.lstE {ds : List D} {motive : ∀ v, Rep h v (.lst ds) → Prop} (lst : ∀ {a vs} (p : h.PlainList a vs) (q : RepL h vs.toList ds), motive _ (.lst p q)) : ∀ {v : Value} (r : Rep h v (.lst ds)), motive v r := by intro v r; cases r with | lst p q => exact lst p q
end
theorem RepL.inv1 {h : Heap} {vs : List Value} {d : D} (r : RepL h vs [d]) : ∃ v, vs = [v] ∧ Rep h v d := by
  cases r with | cons q r => cases r; exact ⟨_, rfl, q⟩
theorem RepL.inv2 {h : Heap} {vs : List Value} {d e : D} (r : RepL h vs [d, e]) : ∃ v w, vs = [v, w] ∧ Rep h v d ∧ Rep h w e := by
  cases r with | cons q r => obtain ⟨w, rfl, q'⟩ := r.inv1; exact ⟨_, w, rfl, q, q'⟩

/-- data that needs no heap -/
noncomputable def D.flat : D → Bool
  | .tup _ => false
  | .lst _ => false
  | _ => true
theorem Rep.anyHeap {h h' : Heap} {v : Value} {d : D} (r : Rep h v d) (f : d.flat = true) : Rep h' v d := by
  cases r with
  | none => exact .none
  | bool b => exact .bool b
  | int i t => exact .int i t
  | str x t => exact .str x t
  | bytes b t => exact .bytes b t
  | ty n => exact .ty n
  | tup _ _ => cases f
  | lst _ _ => cases f
  | raw v => exact .raw v
theorem RepL.anyHeap {h h' : Heap} : ∀ {vs : List Value} {ds : List D}, RepL h vs ds → (∀ d ∈ ds, d.flat = true) → RepL h' vs ds
  | _, _, .nil, _ => .nil
  | _, _, .cons q r, f => .cons (q.anyHeap (f _ (.head _))) (r.anyHeap fun d hd => f d (.tail _ hd))

/-! states -/
theorem keeps_refl (s : Shared) : Keeps s s := ⟨s.heap, s.toks, rfl, fun _ _ e => e⟩
theorem keeps_trans {s s' s'' : Shared} (k : Keeps s s') (k' : Keeps s' s'') : Keeps s s'' := by
  obtain ⟨h, t, rfl, e⟩ := k
  obtain ⟨h', t', rfl, e'⟩ := k'
  exact ⟨h', t', rfl, fun b o q => e' b o (e b o q)⟩
theorem keeps_stays {s s' : Shared} (k : Keeps s s') : s.heap.StaysIn s'.heap := by
  obtain ⟨h, t, rfl, e⟩ := k
  exact e
theorem keeps_tok (s : Shared) (t : Nat) : Keeps s { s with toks := t } := ⟨s.heap, t, rfl, fun _ _ e => e⟩
theorem keeps_push (s : Shared) (o : Obj) : Keeps s { s with heap := s.heap.push o } := ⟨_, s.toks, rfl, fun _ _ e => Heap.get?_push_of_some o e⟩
theorem keeps_heap {s : Shared} {h' : Heap} (k : s.heap.StaysIn h') : Keeps s { s with heap := h' } := ⟨h', s.toks, rfl, k⟩
theorem stays_refl (h : Heap) : h.StaysIn h := fun _ _ e => e
theorem stays_trans {h h' h'' : Heap} (k : h.StaysIn h') (k' : h'.StaysIn h'') : h.StaysIn h'' := fun b o e => k' b o (k b o e)

/-- what is in k and not in g -/
noncomputable def outOf (g k : Heap) : List Addr := (List.range k.objs.size).filter fun a => (k.get? a).isSome && (g.get? a).isNone
theorem mem_outOf {g k : Heap} {a : Addr} : a ∈ outOf g k ↔ (∃ o, k.get? a = some o) ∧ g.get? a = none := by
  unfold outOf
  simp only [List.mem_filter, List.mem_range, Bool.and_eq_true, Option.isSome_iff_exists, Option.isNone_iff_eq_none]
  exact ⟨fun x => x.2, fun x => ⟨let ⟨o, e⟩ := x.1; Heap.lt_size e, x⟩⟩
/-- of k' what is new since k, or in g -/
noncomputable def nw (g k k' : Heap) : Heap := hideAll k' (outOf g k)
theorem nw_in {g k k' : Heap} : (nw g k k').StaysIn k' := fun a o e => of_hideAll _ e
theorem nw_get {g k k' : Heap} {a : Addr} {o : Obj} (e : k'.get? a = some o) (n : (∃ o, k.get? a = some o) → ∃ o, g.get? a = some o) : (nw g k k').get? a = some o := hideAll_get _ e fun hm => by
  obtain ⟨h1, h2⟩ := mem_outOf.mp hm
  obtain ⟨o', h3⟩ := n h1
  rw [h2] at h3; cases h3
theorem nw_not {g k k' : Heap} {a : Addr} {o : Obj} (e : (nw g k k').get? a = some o) (n : ∃ o, k.get? a = some o) : ∃ o, g.get? a = some o := by
  cases q : g.get? a with
  | some o => exact ⟨o, rfl⟩
  | none => rw [nw, hideAll_none _ (mem_outOf.mpr ⟨n, q⟩)] at e; cases e
theorem nw_up {g k k' k'' : Heap} (h : k'.StaysIn k'') : (nw g k k').StaysIn (nw g k k'') := fun a o e => nw_get (h a o (nw_in a o e)) fun n => nw_not e n
theorem nw_late {g k k1 k' : Heap} (h : k.StaysIn k1) : (nw g k1 k').StaysIn (nw g k k') := fun a o e => nw_get (nw_in a o e) fun ⟨o', n⟩ => nw_not e ⟨o', h a o' n⟩
theorem nw_base {g k k' : Heap} (h : g.StaysIn k') : g.StaysIn (nw g k k') := fun a o e => nw_get (h a o e) fun _ => ⟨o, e⟩
theorem nw_mono {g g' k k' : Heap} (h : g.StaysIn g') : (nw g k k').StaysIn (nw g' k k') := fun a o e => nw_get (nw_in a o e) fun n => let ⟨o', q⟩ := nw_not e n; ⟨o', h a o' q⟩
theorem nw_new {g k k' : Heap} {a : Addr} {o : Obj} (e : k'.get? a = some o) (n : k.get? a = none) : (nw g k k').get? a = some o := nw_get e fun ⟨o', q⟩ => by rw [n] at q; cases q

/-- room for calls -/
structure Fit (A : Around) (n : Nat) : Prop where
  hh : A.handled = none
  dep : A.depth + n < 900
  un : A.units + 20 * n < 9000

theorem Fit.le {A : Around} {n m : Nat} (f : Fit A n) (h : m ≤ n) : Fit A m := ⟨f.hh, by have := f.dep; omega, by have := f.un; omega⟩
theorem Fit.cLine {A : Around} {n : Nat} (f : Fit A n) : A.units < cLine := by have := f.un; show A.units < 9900; omega
theorem Fit.room {A : Around} {n : Nat} (f : Fit A n) : A.depth < recursionLimit := by have := f.dep; show A.depth < 1000; omega
theorem Fit.deeper {A : Around} {n : Nat} {env : Env} (f : Fit A (n + 1)) : Fit (A.deeper env) n :=
  ⟨f.hh, by have := f.dep; show A.depth + 1 + n < 900; omega, by have := f.un; show A.units + 3 + 20 * n < 9000; omega⟩
/-- what the text's top is, at a heap -/
structure Gr (K : Frag) (mg mb : Str → Option Value) (h : Heap) : Prop where
  X : K.In h
  g : h.Ns mainGlobals mg
  b : h.Ns builtinsNs mb
  nolimit : h.NoLimit
  builtins : ∀ x : Str, x ≠ "__name__" → mb x = bootBuiltins x
theorem Gr.stays {K : Frag} {mg mb : Str → Option Value} {h h' : Heap} (G : Gr K mg mb h) (k : h.StaysIn h') : Gr K mg mb h' :=
  ⟨G.X.keeps k, G.g.keeps k, G.b.keeps k, G.nolimit.keeps k, G.builtins⟩

/-- a name of the frame's reads as v -/
noncomputable def LookV (env : Env) (h : Heap) (x : Str) (v : Value) : Prop :=
  (env.kindOf x = some .local ∧ ∃ m, h.Ns env.locals m ∧ m x = some v) ∨
  ((env.kindOf x = some .cell ∨ env.kindOf x = some .free) ∧ ∃ c, env.cells.lookup x = some c ∧ h.IsCell c (some v))
theorem LookV.stays {env : Env} {h h' : Heap} {x : Str} {v : Value} (l : LookV env h x v) (k : h.StaysIn h') : LookV env h' x v := by
  rcases l with ⟨a, m, b, c⟩ | ⟨a, c, b, d⟩
  · exact .inl ⟨a, m, b.keeps k, c⟩
  · exact .inr ⟨a, c, b, d.keeps k⟩

noncomputable abbrev Vars := List (Str × Bool × D)

/-- the names' data: flag true: it stands in the base already -/
structure VS (env : Env) (h₀ h : Heap) (vars : Vars) : Prop where
  keep : h₀.StaysIn h
  get : ∀ x b d, vars.lookup x = some (b, d) → ∃ v, LookV env h x v ∧ Rep h v d ∧ (b = true → Rep h₀ v d)
theorem VS.stays {env : Env} {h₀ h h' : Heap} {vars : Vars} (V : VS env h₀ h vars) (k : h.StaysIn h') : VS env h₀ h' vars :=
  ⟨stays_trans V.keep k, fun x b d e => let ⟨v, l, r, q⟩ := V.get x b d e; ⟨v, l.stays k, r.stays k, q⟩⟩

/-! judgements -/
/-- the operations of two operands -/
inductive OpT where
  | bin (op : Operator)
  | inp (op : Operator)
  | cmp (op : CmpOp)
  | item
noncomputable def OpT.tree : OpT → Value → Value → Sem Value
  | .bin op => binaryOp op
  | .inp op => inplaceOp op
  | .cmp op => compareOp op
  | .item => getItem
section
variable (prog : Program) (w : World) (A : Around) (env : Env) (h : Heap)
structure Ev (e : Expr) (d : D) : Prop where
  run : ∀ (s : Shared) (Q : Value → Shared → Prop) (E : Value → Shared → Prop), h.StaysIn s.heap → (∀ v s', Keeps s s' → Rep s'.heap v d → Q v s') → wpAny (model prog w) A (eval e env) Q E s
structure Tr (e : Expr) (b : Bool) : Prop where
  run : ∀ (s : Shared) (Q : Bool → Shared → Prop) (E : Value → Shared → Prop), h.StaysIn s.heap → (∀ s', Keeps s s' → Q b s') → wpAny (model prog w) A (isTrue e env (eval e env)) Q E s
structure EvL (es : List Expr) (ds : List D) : Prop where
  run : ∀ (pos : Pos) (s : Shared) (Q : List Value → Shared → Prop) (E : Value → Shared → Prop), h.StaysIn s.heap → (∀ vs s', Keeps s s' → RepL s'.heap vs ds → Q vs s') → wpAny (model prog w) A (spliced (backTo pos (starEach es env))) Q E s
/-- an operation on data -/
structure Op (t : OpT) (d1 d2 d : D) : Prop where
  run : ∀ (s : Shared) (v1 v2 : Value) (Q : Value → Shared → Prop) (E : Value → Shared → Prop), Rep s.heap v1 d1 → Rep s.heap v2 d2 → (∀ v s', Keeps s s' → Rep s'.heap v d → Q v s') → wpAny (model prog w) A (t.tree v1 v2) Q E s
/-- a call of a known callee upon data -/
structure CallD (f : Value) (ds : List D) (d : D) : Prop where
  run : ∀ (s : Shared) (vs : List Value) (Q : Value → Shared → Prop) (E : Value → Shared → Prop), h.StaysIn s.heap → RepL s.heap vs ds → (∀ v s', Keeps s s' → Rep s'.heap v d → Q v s') → wpAny (model prog w) A (call f vs) Q E s
end

section
variable {prog : Program} {w : World} {A : Around} {env : Env} {h h₀ : Heap}

/-! constants -/
theorem ev_int {i : Int} {k pos} : Ev prog w A env h (.Constant (.int i) k pos) (.int i) := ⟨fun s Q _ _ c => wpAny_Constant_int (c _ _ (keeps_tok s _) (.int i _))⟩
theorem ev_str {x : Str} {k pos} : Ev prog w A env h (.Constant (.str x) k pos) (.str x) := ⟨fun s Q _ _ c => Constant_str (c _ _ (keeps_tok s _) (.str x _))⟩
theorem ev_bool {b : Bool} {k pos} : Ev prog w A env h (.Constant (.bool b) k pos) (.bool b) := ⟨fun s Q _ _ c => wpAny_pure (c _ _ (keeps_refl s) (.bool b))⟩
theorem ev_none {k pos} : Ev prog w A env h (.Constant .none k pos) .none := ⟨fun s Q _ _ c => wpAny_pure (c _ _ (keeps_refl s) .none)⟩
theorem ev_bytes {b : List UInt8} {k pos} : Ev prog w A env h (.Constant (.bytes b) k pos) (.bytes b.toArray) := ⟨fun s Q _ _ c => wpAny_mkTextBytes (c _ _ (keeps_tok s _) (.bytes _ _))⟩

/-! names -/
theorem load_of_look {s : Shared} {x : Str} {v : Value} {Q : Value → Shared → Prop} {E : Value → Shared → Prop} (hk : env.scope.kind = .function) (l : LookV env s.heap x v) (c : Q v s)
    (hn : (x == ("__classdict__" : Str)) = false) : wpAny (model prog w) A (loadName env x) Q E s := by
  rcases l with ⟨a, m, b, e⟩ | ⟨a | a, cc, b, e⟩
  · exact wpAny_loadName_local hk a b e c
  · exact wpAny_loadName_cell hk a b e c
  · exact wpAny_loadName_free hk a b e c hn
theorem ev_var {vars : Vars} {x : Str} {pos : Pos} {b : Bool} {d : D} (V : VS env h₀ h vars) (e : vars.lookup x = some (b, d)) (hk : env.scope.kind = .function := by rfl)
    (hd : (x == ("__debug__" : Str)) = false := by decide) (hn : (x == ("__classdict__" : Str)) = false := by decide) : Ev prog w A env h (.Name x pos) d := ⟨fun s Q _ q c => by
  obtain ⟨v, l, r, _⟩ := V.get x b d e
  exact wpAny_Name (load_of_look hk (l.stays q) (c v s (keeps_refl s) (r.stays q)) hn) hd⟩

/-! operators -/
theorem ev_binop {l r : Expr} {op : Operator} {pos : Pos} {d1 d2 d : D} (hl : Ev prog w A env h l d1) (hr : Ev prog w A env h r d2) (ho : Op prog w A (.bin op) d1 d2 d) : Ev prog w A env h (.BinOp l op r pos) d :=
  ⟨fun s Q E q c => wpAny_BinOp (hl.run s _ E q fun v1 s1 k1 r1 => hr.run s1 _ E (stays_trans q (keeps_stays k1)) fun v2 s2 k2 r2 =>
    ho.run s2 v1 v2 _ E (r1.stays (keeps_stays k2)) r2 fun v s3 k3 r3 => c v s3 (keeps_trans (keeps_trans k1 k2) k3) r3)⟩
theorem tr_cmp {l r : Expr} {op : CmpOp} {pos : Pos} {d1 d2 : D} {b : Bool} (hl : Ev prog w A env h l d1) (hr : Ev prog w A env h r d2) (ho : Op prog w A (.cmp op) d1 d2 (.bool b)) (hm : behindInMarks op r = false := by with_unfolding_all rfl) : Tr prog w A env h (.Compare l [op] [r] pos) b :=
  ⟨fun s Q E q c => wpAny_isTrue_Compare1 (hl.run s _ E q fun v1 s1 k1 r1 => hr.run s1 _ E (stays_trans q (keeps_stays k1)) fun v2 s2 k2 r2 =>
    ho.run s2 v1 v2 _ E (r1.stays (keeps_stays k2)) r2 fun v s3 k3 r3 => by cases r3; exact wpAny_truthy_bool (c s3 (keeps_trans (keeps_trans k1 k2) k3))) hm⟩
end
end Mine

end
noncomputable section
open PySem PySem.Calls PySem.W PyProof.Rows
set_option maxRecDepth 100000
namespace Mine
section
variable {prog : Program} {w : World} {A : Around} {env : Env} {h h₀ : Heap}

/-! ints -/
theorem op_add_int {a b : Int} : Op prog w A (.bin .Add) (.int a) (.int b) (.int (a + b)) := ⟨fun s v1 v2 Q E r1 r2 c => by
  (first | cases r1 using Rep.intE | cases r1 using Rep.strE | cases r1 using Rep.bytesE | cases r1 using Rep.lstE | cases r1 using Rep.tupE | cases r1 using Rep.boolE | cases r1 using Rep.tyE | cases r1 using Rep.noneE | cases r1); (first | cases r2 using Rep.intE | cases r2 using Rep.strE | cases r2 using Rep.bytesE | cases r2 using Rep.lstE | cases r2 using Rep.tupE | cases r2 using Rep.boolE | cases r2 using Rep.tyE | cases r2 using Rep.noneE | cases r2); exact PyProof.Rows.add_int (c _ _ (keeps_tok s _) (.int _ _))⟩
theorem op_sub_int {a b : Int} : Op prog w A (.bin .Sub) (.int a) (.int b) (.int (a - b)) := ⟨fun s v1 v2 Q E r1 r2 c => by
  (first | cases r1 using Rep.intE | cases r1 using Rep.strE | cases r1 using Rep.bytesE | cases r1 using Rep.lstE | cases r1 using Rep.tupE | cases r1 using Rep.boolE | cases r1 using Rep.tyE | cases r1 using Rep.noneE | cases r1); (first | cases r2 using Rep.intE | cases r2 using Rep.strE | cases r2 using Rep.bytesE | cases r2 using Rep.lstE | cases r2 using Rep.tupE | cases r2 using Rep.boolE | cases r2 using Rep.tyE | cases r2 using Rep.noneE | cases r2); exact PyProof.Rows.sub_int (c _ _ (keeps_tok s _) (.int _ _))⟩
theorem op_mul_int {a b : Int} (hm : IntMulOk a b) : Op prog w A (.bin .Mult) (.int a) (.int b) (.int (a * b)) := ⟨fun s v1 v2 Q E r1 r2 c => by
  (first | cases r1 using Rep.intE | cases r1 using Rep.strE | cases r1 using Rep.bytesE | cases r1 using Rep.lstE | cases r1 using Rep.tupE | cases r1 using Rep.boolE | cases r1 using Rep.tyE | cases r1 using Rep.noneE | cases r1); (first | cases r2 using Rep.intE | cases r2 using Rep.strE | cases r2 using Rep.bytesE | cases r2 using Rep.lstE | cases r2 using Rep.tupE | cases r2 using Rep.boolE | cases r2 using Rep.tyE | cases r2 using Rep.noneE | cases r2); exact PyProof.Rows.mul_int (c _ _ (keeps_tok s _) (.int _ _)) hm⟩
theorem op_imul_int {a b : Int} (hm : IntMulOk a b) : Op prog w A (.inp .Mult) (.int a) (.int b) (.int (a * b)) := ⟨fun s v1 v2 Q E r1 r2 c => by
  (first | cases r1 using Rep.intE | cases r1 using Rep.strE | cases r1 using Rep.bytesE | cases r1 using Rep.lstE | cases r1 using Rep.tupE | cases r1 using Rep.boolE | cases r1 using Rep.tyE | cases r1 using Rep.noneE | cases r1); (first | cases r2 using Rep.intE | cases r2 using Rep.strE | cases r2 using Rep.bytesE | cases r2 using Rep.lstE | cases r2 using Rep.tupE | cases r2 using Rep.boolE | cases r2 using Rep.tyE | cases r2 using Rep.noneE | cases r2); exact AutoIntOps.imul_0 (c _ _ (keeps_tok s _) (.int _ _)) hm⟩
theorem op_floordiv_int {a b : Int} (hb : b ≠ 0) (hp : b.natAbs.log2 < 9000) : Op prog w A (.bin .FloorDiv) (.int a) (.int b) (.int (a.fdiv b)) := ⟨fun s v1 v2 Q E r1 r2 c => by
  (first | cases r1 using Rep.intE | cases r1 using Rep.strE | cases r1 using Rep.bytesE | cases r1 using Rep.lstE | cases r1 using Rep.tupE | cases r1 using Rep.boolE | cases r1 using Rep.tyE | cases r1 using Rep.noneE | cases r1); (first | cases r2 using Rep.intE | cases r2 using Rep.strE | cases r2 using Rep.bytesE | cases r2 using Rep.lstE | cases r2 using Rep.tupE | cases r2 using Rep.boolE | cases r2 using Rep.tyE | cases r2 using Rep.noneE | cases r2)
  exact AutoIntOps.floordiv_1 (by simpa using hb) (by rw [PyProof.noPylong_of_log2 hp]; exact Bool.false_ne_true) (c _ _ (keeps_tok s _) (.int _ _))⟩
theorem op_mod_int {a b : Int} (hb : b ≠ 0) : Op prog w A (.bin .Mod) (.int a) (.int b) (.int (a.fmod b)) := ⟨fun s v1 v2 Q E r1 r2 c => by
  (first | cases r1 using Rep.intE | cases r1 using Rep.strE | cases r1 using Rep.bytesE | cases r1 using Rep.lstE | cases r1 using Rep.tupE | cases r1 using Rep.boolE | cases r1 using Rep.tyE | cases r1 using Rep.noneE | cases r1); (first | cases r2 using Rep.intE | cases r2 using Rep.strE | cases r2 using Rep.bytesE | cases r2 using Rep.lstE | cases r2 using Rep.tupE | cases r2 using Rep.boolE | cases r2 using Rep.tyE | cases r2 using Rep.noneE | cases r2); exact PyProof.Rows.mod_int hb (c _ _ (keeps_tok s _) (.int _ _))⟩
theorem op_rshift_int {a n : Int} (hn : 0 ≤ n) : Op prog w A (.bin .RShift) (.int a) (.int n) (.int (a.fdiv (2 ^ n.toNat))) := ⟨fun s v1 v2 Q E r1 r2 c => by
  (first | cases r1 using Rep.intE | cases r1 using Rep.strE | cases r1 using Rep.bytesE | cases r1 using Rep.lstE | cases r1 using Rep.tupE | cases r1 using Rep.boolE | cases r1 using Rep.tyE | cases r1 using Rep.noneE | cases r1); (first | cases r2 using Rep.intE | cases r2 using Rep.strE | cases r2 using Rep.bytesE | cases r2 using Rep.lstE | cases r2 using Rep.tupE | cases r2 using Rep.boolE | cases r2 using Rep.tyE | cases r2 using Rep.noneE | cases r2); exact PyProof.Rows.rshift_int hn (c _ _ (keeps_tok s _) (.int _ _))⟩
theorem op_lshift_int {a n : Int} (hn : 0 ≤ n) (hsz : (Builtin.Int.intBits a : Int) + n ≤ 2 ^ 27) : Op prog w A (.bin .LShift) (.int a) (.int n) (.int (a * 2 ^ n.toNat)) := ⟨fun s v1 v2 Q E r1 r2 c => by
  (first | cases r1 using Rep.intE | cases r1 using Rep.strE | cases r1 using Rep.bytesE | cases r1 using Rep.lstE | cases r1 using Rep.tupE | cases r1 using Rep.boolE | cases r1 using Rep.tyE | cases r1 using Rep.noneE | cases r1); (first | cases r2 using Rep.intE | cases r2 using Rep.strE | cases r2 using Rep.bytesE | cases r2 using Rep.lstE | cases r2 using Rep.tupE | cases r2 using Rep.boolE | cases r2 using Rep.tyE | cases r2 using Rep.noneE | cases r2); exact PyProof.Rows.lshift_int hn hsz (c _ _ (keeps_tok s _) (.int _ _))⟩
theorem op_and_int {a b : Int} : Op prog w A (.bin .BitAnd) (.int a) (.int b) (.int (Builtin.bitAnd a b)) := ⟨fun s v1 v2 Q E r1 r2 c => by
  (first | cases r1 using Rep.intE | cases r1 using Rep.strE | cases r1 using Rep.bytesE | cases r1 using Rep.lstE | cases r1 using Rep.tupE | cases r1 using Rep.boolE | cases r1 using Rep.tyE | cases r1 using Rep.noneE | cases r1); (first | cases r2 using Rep.intE | cases r2 using Rep.strE | cases r2 using Rep.bytesE | cases r2 using Rep.lstE | cases r2 using Rep.tupE | cases r2 using Rep.boolE | cases r2 using Rep.tyE | cases r2 using Rep.noneE | cases r2); exact PyProof.Rows.and_int (c _ _ (keeps_tok s _) (.int _ _))⟩
theorem op_or_int {a b : Int} : Op prog w A (.bin .BitOr) (.int a) (.int b) (.int (Builtin.bitOr a b)) := ⟨fun s v1 v2 Q E r1 r2 c => by
  (first | cases r1 using Rep.intE | cases r1 using Rep.strE | cases r1 using Rep.bytesE | cases r1 using Rep.lstE | cases r1 using Rep.tupE | cases r1 using Rep.boolE | cases r1 using Rep.tyE | cases r1 using Rep.noneE | cases r1); (first | cases r2 using Rep.intE | cases r2 using Rep.strE | cases r2 using Rep.bytesE | cases r2 using Rep.lstE | cases r2 using Rep.tupE | cases r2 using Rep.boolE | cases r2 using Rep.tyE | cases r2 using Rep.noneE | cases r2); exact PyProof.Rows.or_int (c _ _ (keeps_tok s _) (.int _ _))⟩
theorem op_pow_int {a b : Int} (ha : 2 ≤ a) (hb : 0 ≤ b) (hz : (Builtin.Int.intBits a : Int) * b ≤ 2 ^ 27) : Op prog w A (.bin .Pow) (.int a) (.int b) (.int (a ^ b.toNat)) := ⟨fun s v1 v2 Q E r1 r2 c => by
  (first | cases r1 using Rep.intE | cases r1 using Rep.strE | cases r1 using Rep.bytesE | cases r1 using Rep.lstE | cases r1 using Rep.tupE | cases r1 using Rep.boolE | cases r1 using Rep.tyE | cases r1 using Rep.noneE | cases r1); (first | cases r2 using Rep.intE | cases r2 using Rep.strE | cases r2 using Rep.bytesE | cases r2 using Rep.lstE | cases r2 using Rep.tupE | cases r2 using Rep.boolE | cases r2 using Rep.tyE | cases r2 using Rep.noneE | cases r2)
  by_cases h0 : b = 0
  · subst h0
    exact AutoIntOps.pow_0 (by decide) (by decide) (c _ _ (keeps_tok s _) (by simpa using Rep.int 1 s.toks))
  · exact AutoIntOps.pow_4 hb (by simpa using h0) (by simp; omega) (by simp; omega) (by simp [Builtin.Int.intTooBig, bitsLine]; omega) (c _ _ (keeps_tok s _) (.int _ _))⟩
/-! comparisons of ints, strs, bools, bytes -/
theorem cmp_eq_int {a b : Int} : Op prog w A (.cmp .Eq) (.int a) (.int b) (.bool (a == b)) := ⟨fun s v1 v2 Q E r1 r2 c => by
  (first | cases r1 using Rep.intE | cases r1 using Rep.strE | cases r1 using Rep.bytesE | cases r1 using Rep.lstE | cases r1 using Rep.tupE | cases r1 using Rep.boolE | cases r1 using Rep.tyE | cases r1 using Rep.noneE | cases r1); (first | cases r2 using Rep.intE | cases r2 using Rep.strE | cases r2 using Rep.bytesE | cases r2 using Rep.lstE | cases r2 using Rep.tupE | cases r2 using Rep.boolE | cases r2 using Rep.tyE | cases r2 using Rep.noneE | cases r2); exact PyProof.Rows.eq_int (c _ _ (keeps_refl s) (.bool _))⟩
theorem cmp_ne_int {a b : Int} : Op prog w A (.cmp .NotEq) (.int a) (.int b) (.bool (a != b)) := ⟨fun s v1 v2 Q E r1 r2 c => by
  (first | cases r1 using Rep.intE | cases r1 using Rep.strE | cases r1 using Rep.bytesE | cases r1 using Rep.lstE | cases r1 using Rep.tupE | cases r1 using Rep.boolE | cases r1 using Rep.tyE | cases r1 using Rep.noneE | cases r1); (first | cases r2 using Rep.intE | cases r2 using Rep.strE | cases r2 using Rep.bytesE | cases r2 using Rep.lstE | cases r2 using Rep.tupE | cases r2 using Rep.boolE | cases r2 using Rep.tyE | cases r2 using Rep.noneE | cases r2); exact PyProof.Rows.ne_int (c _ _ (keeps_refl s) (.bool _))⟩
theorem cmp_lt_int {a b : Int} : Op prog w A (.cmp .Lt) (.int a) (.int b) (.bool (decide (a < b))) := ⟨fun s v1 v2 Q E r1 r2 c => by
  (first | cases r1 using Rep.intE | cases r1 using Rep.strE | cases r1 using Rep.bytesE | cases r1 using Rep.lstE | cases r1 using Rep.tupE | cases r1 using Rep.boolE | cases r1 using Rep.tyE | cases r1 using Rep.noneE | cases r1); (first | cases r2 using Rep.intE | cases r2 using Rep.strE | cases r2 using Rep.bytesE | cases r2 using Rep.lstE | cases r2 using Rep.tupE | cases r2 using Rep.boolE | cases r2 using Rep.tyE | cases r2 using Rep.noneE | cases r2); exact PyProof.Rows.lt_int (c _ _ (keeps_refl s) (.bool _))⟩
theorem cmp_le_int {a b : Int} : Op prog w A (.cmp .LtE) (.int a) (.int b) (.bool (decide (a ≤ b))) := ⟨fun s v1 v2 Q E r1 r2 c => by
  (first | cases r1 using Rep.intE | cases r1 using Rep.strE | cases r1 using Rep.bytesE | cases r1 using Rep.lstE | cases r1 using Rep.tupE | cases r1 using Rep.boolE | cases r1 using Rep.tyE | cases r1 using Rep.noneE | cases r1); (first | cases r2 using Rep.intE | cases r2 using Rep.strE | cases r2 using Rep.bytesE | cases r2 using Rep.lstE | cases r2 using Rep.tupE | cases r2 using Rep.boolE | cases r2 using Rep.tyE | cases r2 using Rep.noneE | cases r2); exact PyProof.Rows.le_int (c _ _ (keeps_refl s) (.bool _))⟩
theorem cmp_ge_int {a b : Int} : Op prog w A (.cmp .GtE) (.int a) (.int b) (.bool (decide (b ≤ a))) := ⟨fun s v1 v2 Q E r1 r2 c => by
  (first | cases r1 using Rep.intE | cases r1 using Rep.strE | cases r1 using Rep.bytesE | cases r1 using Rep.lstE | cases r1 using Rep.tupE | cases r1 using Rep.boolE | cases r1 using Rep.tyE | cases r1 using Rep.noneE | cases r1); (first | cases r2 using Rep.intE | cases r2 using Rep.strE | cases r2 using Rep.bytesE | cases r2 using Rep.lstE | cases r2 using Rep.tupE | cases r2 using Rep.boolE | cases r2 using Rep.tyE | cases r2 using Rep.noneE | cases r2); exact PyProof.Rows.ge_int (c _ _ (keeps_refl s) (.bool _))⟩
theorem cmp_eq_str {a b : Str} : Op prog w A (.cmp .Eq) (.str a) (.str b) (.bool (a == b)) := ⟨fun s v1 v2 Q E r1 r2 c => by
  (first | cases r1 using Rep.intE | cases r1 using Rep.strE | cases r1 using Rep.bytesE | cases r1 using Rep.lstE | cases r1 using Rep.tupE | cases r1 using Rep.boolE | cases r1 using Rep.tyE | cases r1 using Rep.noneE | cases r1); (first | cases r2 using Rep.intE | cases r2 using Rep.strE | cases r2 using Rep.bytesE | cases r2 using Rep.lstE | cases r2 using Rep.tupE | cases r2 using Rep.boolE | cases r2 using Rep.tyE | cases r2 using Rep.noneE | cases r2); exact SeqAt.RcAt.str_str a _ b _ prog w E Q (c _ _ (keeps_refl s) (.bool _))⟩
theorem cmp_in_str {x y : Str} : Op prog w A (.cmp .In) (.str y) (.str x) (.bool (Txt.contains x y)) := ⟨fun s v1 v2 Q E r1 r2 c => by
  (first | cases r1 using Rep.intE | cases r1 using Rep.strE | cases r1 using Rep.bytesE | cases r1 using Rep.lstE | cases r1 using Rep.tupE | cases r1 using Rep.boolE | cases r1 using Rep.tyE | cases r1 using Rep.noneE | cases r1); (first | cases r2 using Rep.intE | cases r2 using Rep.strE | cases r2 using Rep.bytesE | cases r2 using Rep.lstE | cases r2 using Rep.tupE | cases r2 using Rep.boolE | cases r2 using Rep.tyE | cases r2 using Rep.noneE | cases r2); exact SB.contains (c _ _ (keeps_refl s) (.bool _))⟩
theorem cmp_ne_bytes {a b : Array UInt8} : Op prog w A (.cmp .NotEq) (.bytes a) (.bytes b) (.bool (a.toList != b.toList)) := ⟨fun s v1 v2 Q E r1 r2 c => by
  (first | cases r1 using Rep.intE | cases r1 using Rep.strE | cases r1 using Rep.bytesE | cases r1 using Rep.lstE | cases r1 using Rep.tupE | cases r1 using Rep.boolE | cases r1 using Rep.tyE | cases r1 using Rep.noneE | cases r1); (first | cases r2 using Rep.intE | cases r2 using Rep.strE | cases r2 using Rep.bytesE | cases r2 using Rep.lstE | cases r2 using Rep.tupE | cases r2 using Rep.boolE | cases r2 using Rep.tyE | cases r2 using Rep.noneE | cases r2); exact PySem.W.ne_bytes (c _ _ (keeps_refl s) (.bool _))⟩

/-! texts -/
theorem op_add_str {x y : Str} (hz : x.length + y.length ≤ sizeLine) : Op prog w A (.bin .Add) (.str x) (.str y) (.str (x ++ y)) := ⟨fun s v1 v2 Q E r1 r2 c => by
  (first | cases r1 using Rep.intE | cases r1 using Rep.strE | cases r1 using Rep.bytesE | cases r1 using Rep.lstE | cases r1 using Rep.tupE | cases r1 using Rep.boolE | cases r1 using Rep.tyE | cases r1 using Rep.noneE | cases r1); (first | cases r2 using Rep.intE | cases r2 using Rep.strE | cases r2 using Rep.bytesE | cases r2 using Rep.lstE | cases r2 using Rep.tupE | cases r2 using Rep.boolE | cases r2 using Rep.tyE | cases r2 using Rep.noneE | cases r2); exact SB.add (fun t k => c _ _ (keeps_tok s k) (.str _ _)) hz⟩
theorem op_iadd_str {x y : Str} (hz : x.length + y.length ≤ sizeLine) : Op prog w A (.inp .Add) (.str x) (.str y) (.str (x ++ y)) := ⟨fun s v1 v2 Q E r1 r2 c => by
  (first | cases r1 using Rep.intE | cases r1 using Rep.strE | cases r1 using Rep.bytesE | cases r1 using Rep.lstE | cases r1 using Rep.tupE | cases r1 using Rep.boolE | cases r1 using Rep.tyE | cases r1 using Rep.noneE | cases r1); (first | cases r2 using Rep.intE | cases r2 using Rep.strE | cases r2 using Rep.bytesE | cases r2 using Rep.lstE | cases r2 using Rep.tupE | cases r2 using Rep.boolE | cases r2 using Rep.tyE | cases r2 using Rep.noneE | cases r2); exact SB.iadd (fun t k => c _ _ (keeps_tok s k) (.str _ _)) hz⟩
/-! lists -/
theorem size_of_repL {vs : Array Value} {ds : List D} (r : RepL h vs.toList ds) : vs.size = ds.length := by rw [← r.length, Array.length_toList]
theorem rep_newList {s : Shared} {vs : List Value} {ds : List D} (r : RepL s.heap vs ds) : Rep (s.heap.push { cls := .type "list", data := .seq vs.toArray }) (.ref s.heap.objs.size) (.lst ds) :=
  .lst ⟨0, Heap.get?_push_size _ rfl⟩ (by simpa using r.stays fun _ _ e => Heap.get?_push_of_some _ e)
theorem rep_newTup {s : Shared} {vs : List Value} {ds : List D} (r : RepL s.heap vs ds) : Rep (s.heap.push { cls := .type "tuple", data := .seq vs.toArray }) (.ref s.heap.objs.size) (.tup ds) :=
  .tup ⟨_, 0, Heap.get?_push_size _ rfl, rfl, rfl⟩ (by simpa using r.stays fun _ _ e => Heap.get?_push_of_some _ e)
theorem op_add_list {xs ys : List D} (hz : xs.length + ys.length ≤ sizeLine) : Op prog w A (.bin .Add) (.lst xs) (.lst ys) (.lst (xs ++ ys)) := ⟨fun s v1 v2 Q E r1 r2 c => by
  cases r1 using Rep.lstE with
  | lst p1 q1 =>
    cases r2 using Rep.lstE with
    | lst p2 q2 =>
      obtain ⟨n1, e1⟩ := p1
      obtain ⟨n2, e2⟩ := p2
      refine P.add_list e1 e2 (c _ _ (keeps_push s _) ?_) (by rw [size_of_repL q1, size_of_repL q2]; exact hz)
      have := rep_newList (s := s) (RepL.append q2 q1)
      rw [← Array.toList_append, Array.toArray_toList] at this
      exact this⟩
theorem op_item_list {xs : List D} {k : Int} {d : D} (h0 : 0 ≤ k) (hk : k < 2 ^ 62) (e : xs[k.toNat]? = some d) : Op prog w A .item (.lst xs) (.int k) d := ⟨fun s v1 v2 Q E r1 r2 c => by
  cases r1 using Rep.lstE with
  | lst p1 q1 =>
    (first | cases r2 using Rep.intE | cases r2 using Rep.strE | cases r2 using Rep.bytesE | cases r2 using Rep.lstE | cases r2 using Rep.tupE | cases r2 using Rep.boolE | cases r2 using Rep.tyE | cases r2 using Rep.noneE | cases r2)
    obtain ⟨v, hv, hr⟩ := q1.get e
    exact wpAny_getItem_list p1.isList h0 (by omega) (by simpa using hv) (c _ _ (keeps_refl s) hr)⟩
theorem op_last_list {xs : List D} {d : D} (hk : xs.length < 2 ^ 62) (e : xs[xs.length - 1]? = some d) : Op prog w A .item (.lst xs) (.int (-1)) d := ⟨fun s v1 v2 Q E r1 r2 c => by
  cases r1 using Rep.lstE with
  | lst p1 q1 =>
    (first | cases r2 using Rep.intE | cases r2 using Rep.strE | cases r2 using Rep.bytesE | cases r2 using Rep.lstE | cases r2 using Rep.tupE | cases r2 using Rep.boolE | cases r2 using Rep.tyE | cases r2 using Rep.noneE | cases r2)
    have hsz := size_of_repL q1
    have hne : 0 < xs.length := by
      rcases Nat.eq_zero_or_pos xs.length with h0 | h0
      · rw [List.eq_nil_of_length_eq_zero h0] at e; simp at e
      · exact h0
    obtain ⟨v, hv, hr⟩ := q1.get e
    refine wpAny_getItem_list_neg p1.isList (by decide) (by rw [hsz]; omega) (by omega) ?_ (c _ _ (keeps_refl s) hr)
    rw [hsz, show ((-1 : Int) + (xs.length : Int)).toNat = xs.length - 1 from by omega]
    simpa using hv⟩
theorem seqIndex_nonneg {k : Int} {n : Nat} (h0 : 0 ≤ k) (h1 : k < n) : seqIndex? k n = some k.toNat := by
  unfold seqIndex?
  simp [show ¬ k < 0 from by omega, h0, h1]
end
end Mine

end
noncomputable section
open PySem PySem.Calls PySem.W PyProof.Rows
set_option maxRecDepth 100000
namespace Mine
section
variable {prog : Program} {w : World} {A : Around} {env : Env} {h h₀ : Heap}

/-! items -/
theorem op_item_tup {xs : List D} {k : Int} {d : D} (h0 : 0 ≤ k) (hk : k < 2 ^ 62) (e : xs[k.toNat]? = some d) : Op prog w A .item (.tup xs) (.int k) d := ⟨fun s v1 v2 Q E r1 r2 c => by
  cases r1 using Rep.tupE with
  | tup p1 q1 =>
    (first | cases r2 using Rep.intE | cases r2 using Rep.strE | cases r2 using Rep.bytesE | cases r2 using Rep.lstE | cases r2 using Rep.tupE | cases r2 using Rep.boolE | cases r2 using Rep.tyE | cases r2 using Rep.noneE | cases r2)
    obtain ⟨v, hv, hr⟩ := q1.get e
    have hlt : k.toNat < xs.length := (List.getElem?_eq_some_iff.mp e).1
    exact PyProof.Rows.getItem_tuple p1.isTup (by omega) (by omega) (seqIndex_nonneg h0 (by rw [size_of_repL q1]; omega)) (by simpa using hv) (c _ _ (keeps_refl s) hr)⟩
theorem op_item_str {x : Str} {k : Int} {c' : Nat} (h0 : 0 ≤ k) (hk : k < 2 ^ 62) (e : x.cps[k.toNat]? = some c') : Op prog w A .item (.str x) (.int k) (.str ⟨#[c']⟩) := ⟨fun s v1 v2 Q E r1 r2 c => by
  (first | cases r1 using Rep.intE | cases r1 using Rep.strE | cases r1 using Rep.bytesE | cases r1 using Rep.lstE | cases r1 using Rep.tupE | cases r1 using Rep.boolE | cases r1 using Rep.tyE | cases r1 using Rep.noneE | cases r1); (first | cases r2 using Rep.intE | cases r2 using Rep.strE | cases r2 using Rep.bytesE | cases r2 using Rep.lstE | cases r2 using Rep.tupE | cases r2 using Rep.boolE | cases r2 using Rep.tyE | cases r2 using Rep.noneE | cases r2)
  have hlt : k.toNat < x.cps.size := (Array.getElem?_eq_some_iff.mp e).1
  refine P.getItem_str (c := c') (by simp; omega) ?_ (c _ _ (keeps_tok s _) (.str _ _))
  rw [seqIndex_nonneg h0 (by show k < ((x.cps.size : Nat) : Int); omega)]
  exact e⟩
theorem op_last_str {x : Str} {c' : Nat} (hk : x.cps.size < 2 ^ 62) (e : x.cps[x.cps.size - 1]? = some c') : Op prog w A .item (.str x) (.int (-1)) (.str ⟨#[c']⟩) := ⟨fun s v1 v2 Q E r1 r2 c => by
  (first | cases r1 using Rep.intE | cases r1 using Rep.strE | cases r1 using Rep.bytesE | cases r1 using Rep.lstE | cases r1 using Rep.tupE | cases r1 using Rep.boolE | cases r1 using Rep.tyE | cases r1 using Rep.noneE | cases r1); (first | cases r2 using Rep.intE | cases r2 using Rep.strE | cases r2 using Rep.bytesE | cases r2 using Rep.lstE | cases r2 using Rep.tupE | cases r2 using Rep.boolE | cases r2 using Rep.tyE | cases r2 using Rep.noneE | cases r2)
  have hlt : x.cps.size - 1 < x.cps.size := (Array.getElem?_eq_some_iff.mp e).1
  refine P.getItem_str (c := c') (by simp) ?_ (c _ _ (keeps_tok s _) (.str _ _))
  have : seqIndex? (-1) x.length = some (x.cps.size - 1) := by
    unfold seqIndex?
    show (let j := if (-1 : Int) < 0 then (-1 : Int) + (x.cps.size : Nat) else -1; if (decide (0 ≤ j) && decide (j < ((x.cps.size : Nat) : Int))) = true then some j.toNat else none) = _
    simp only [show (-1 : Int) < 0 from by decide, if_true]
    rw [if_pos (by simp; omega)]
    congr 1; omega
  rw [this]
  exact e⟩
theorem op_item_bytes {l : Array UInt8} {k : Int} (hz : l.size ≤ 2 ^ 30) (h0 : 0 ≤ k) (h1 : k < l.size) : Op prog w A .item (.bytes l) (.int k) (.int (l.toList.getD k.toNat 0).toNat) := ⟨fun s v1 v2 Q E r1 r2 c => by
  obtain ⟨l⟩ := l
  (first | cases r1 using Rep.intE | cases r1 using Rep.strE | cases r1 using Rep.bytesE | cases r1 using Rep.lstE | cases r1 using Rep.tupE | cases r1 using Rep.boolE | cases r1 using Rep.tyE | cases r1 using Rep.noneE | cases r1); (first | cases r2 using Rep.intE | cases r2 using Rep.strE | cases r2 using Rep.bytesE | cases r2 using Rep.lstE | cases r2 using Rep.tupE | cases r2 using Rep.boolE | cases r2 using Rep.tyE | cases r2 using Rep.noneE | cases r2)
  exact PySem.W.getItem_bytes (l := l) (i := k) (by have : l.length ≤ 2 ^ 30 := hz; omega) h0 h1 (c _ _ (keeps_tok s _) (.int _ _))⟩

/-! slices -/
structure Part (prog : Program) (w : World) (A : Around) (env : Env) (h : Heap) (x : Option Expr) (k : Option Int) : Prop where
  run : ∀ (s : Shared) (Q : Value → Shared → Prop) (E : Value → Shared → Prop), h.StaysIn s.heap → (∀ v s', Keeps s s' → IsPart v k → Q v s') → wpAny (model prog w) A (evalPart x env) Q E s
theorem part_none : Part prog w A env h none none := ⟨fun s Q E q c => wpAny_pure (c _ _ (keeps_refl s) .none)⟩
theorem part_some {e : Expr} {i : Int} (x : Ev prog w A env h e (.int i)) : Part prog w A env h (some e) (some i) := ⟨fun s Q E q c => x.run s Q E q fun v s' k r => by (first | cases r using Rep.intE | cases r using Rep.strE | cases r using Rep.bytesE | cases r using Rep.lstE | cases r using Rep.tupE | cases r using Rep.boolE | cases r using Rep.tyE | cases r using Rep.noneE | cases r); exact c _ _ k (.int _ _)⟩

theorem mem_pick {vs : Array Value} {ds : List D} (r : RepL h vs.toList ds) (lo hi : Option Int) :
    RepL h (slicePick vs lo hi none).toList ((ds.drop (lo.elim 0 (clipAt ds.length))).take (hi.elim ds.length (clipAt ds.length) - lo.elim 0 (clipAt ds.length))) := by
  rw [slicePick_plain, size_of_repL r]
  exact (r.drop _).take _
theorem sub_tail {value slice : Expr} {o i : Value} {T id : String} {s : Shared} {Q : Value → Shared → Prop} {E : Value → Shared → Prop} (hT : s.TypeIs o T) (hl : typeLookup (.type T) "__getitem__" = pure (some (.builtin id)))
    (hg : wpAny (model prog w) A (getItem o i) Q E s) : wpAny (model prog w) A (subscriptTail value slice o i) Q E s := by
  have : ∃ ops, subscripted slice false o i = operate ops (getItem o i) := by
    unfold subscripted
    split
    · exact ⟨_, rfl⟩
    · rename_i hh; cases hh
    · exact ⟨_, rfl⟩
  obtain ⟨ops, ho⟩ := this
  exact tail_any (ops := ops) hT hl hg ho

/-- data with an own __getitem__ -/
theorem rep_getitem {s : Shared} {v : Value} : ∀ {d : D}, Rep s.heap v d → (match d with | .str _ => True | .bytes _ => True | .tup _ => True | .lst _ => True | _ => False) → ∃ T id, s.TypeIs v T ∧ typeLookup (.type T) "__getitem__" = pure (some (.builtin id))
  | _, .str x t, _ => ⟨"str", _, typeIs_str _ _ _, F.slot_str_getitem.lookup⟩
  | _, .bytes x t, _ => ⟨"bytes", _, typeIs_bytes _ _ _, FB.slot_bytes_getitem.lookup⟩
  | _, .tup p _, _ => ⟨"tuple", _, p.isTup.typeIs, slot_tuple_getitem.lookup⟩
  | _, .lst p _, _ => ⟨"list", _, p.isList.typeIs, slot_list_getitem.lookup⟩
noncomputable def D.seqy : D → Prop
  | .str _ => True | .bytes _ => True | .tup _ => True | .lst _ => True | _ => False
theorem ev_item {value slice : Expr} {pos : Pos} {d1 d2 d : D} (hv : Ev prog w A env h value d1) (hs : Ev prog w A env h slice d2) (ho : Op prog w A .item d1 d2 d) (hq : d1.seqy := by trivial) : Ev prog w A env h (.Subscript value slice pos) d :=
  ⟨fun s Q E q c => Subscript_ (hv.run s _ E q fun v1 s1 k1 r1 => hs.run s1 _ E (stays_trans q (keeps_stays k1)) fun v2 s2 k2 r2 => by
    obtain ⟨T, id, hT, hl⟩ := rep_getitem (r1.stays (keeps_stays k2)) (by cases d1 <;> first | trivial | exact hq)
    exact sub_tail hT hl (ho.run s2 v1 v2 _ E (r1.stays (keeps_stays k2)) r2 fun v s3 k3 r3 => c v s3 (keeps_trans (keeps_trans k1 k2) k3) r3))⟩

noncomputable def cut {α : Type} (l : List α) (lo hi : Option Int) : List α := (l.drop (lo.elim 0 (clipAt l.length))).take (hi.elim l.length (clipAt l.length) - lo.elim 0 (clipAt l.length))

theorem isSlice_of {vl vu : Value} {lo hi : Option Int} (pl : IsPart vl lo) (pu : IsPart vu hi) (hp : Heap) : ∃ l u : Option (Int × Tok), l.map (·.1) = lo ∧ u.map (·.1) = hi ∧ (hp.push { cls := .type "slice", data := .fields #[vl, vu, .none] }).IsSlice hp.objs.size l u none := by
  cases pl with
  | none => cases pu with
    | none => exact ⟨none, none, rfl, rfl, _, Heap.get?_push_size _ rfl, rfl, rfl⟩
    | int j u => exact ⟨none, some (j, u), rfl, rfl, _, Heap.get?_push_size _ rfl, rfl, rfl⟩
  | int i t => cases pu with
    | none => exact ⟨some (i, t), none, rfl, rfl, _, Heap.get?_push_size _ rfl, rfl, rfl⟩
    | int j u => exact ⟨some (i, t), some (j, u), rfl, rfl, _, Heap.get?_push_size _ rfl, rfl, rfl⟩

theorem ev_slice_str {value : Expr} {lower upper : Option Expr} {p pos : Pos} {x : Str} {lo hi : Option Int} (hv : Ev prog w A env h value (.str x)) (hl : Part prog w A env h lower lo) (hu : Part prog w A env h upper hi) (hz : x.length ≤ sizeLine) :
    Ev prog w A env h (.Subscript value (.Slice lower upper none p) pos) (.str (Txt.slice x lo hi)) :=
  ⟨fun s Q E q c => Subscript_ (hv.run s _ E q fun v1 s1 k1 r1 => wpAny_Slice (hl.run s1 _ E (stays_trans q (keeps_stays k1)) fun vl s2 k2 pl => hu.run s2 _ E (stays_trans q (keeps_stays (keeps_trans k1 k2))) fun vu s3 k3 pu => wpAny_pure (by
    have r1' := r1.stays (keeps_stays (keeps_trans (keeps_trans k2 k3) (keeps_push s3 { cls := .type "slice", data := .fields #[vl, vu, .none] })))
    obtain ⟨T, id, hT, hlk⟩ := rep_getitem r1' trivial
    refine sub_tail hT hlk ?_
    (first | cases r1' using Rep.intE | cases r1' using Rep.strE | cases r1' using Rep.bytesE | cases r1' using Rep.lstE | cases r1' using Rep.tupE | cases r1' using Rep.boolE | cases r1' using Rep.tyE | cases r1' using Rep.noneE | cases r1')
    obtain ⟨l, u, rfl, rfl, hss⟩ := isSlice_of pl pu s3.heap
    refine wpAny_getItem_str_slice hss rfl (post_val_or_str ⟨Nat.le_trans (Txt.slice_le x _ _) hz, fun t' k => ?_⟩)
    exact c _ _ (keeps_trans (keeps_trans (keeps_trans (keeps_trans k1 k2) k3) (keeps_push s3 _)) (keeps_tok _ k)) (.str _ _))))⟩

theorem ev_slice_bytes {value : Expr} {lower upper : Option Expr} {p pos : Pos} {b : Array UInt8} {lo hi : Option Int} (hv : Ev prog w A env h value (.bytes b)) (hl : Part prog w A env h lower lo) (hu : Part prog w A env h upper hi) (hz : b.size ≤ sizeLine) :
    Ev prog w A env h (.Subscript value (.Slice lower upper none p) pos) (.bytes (cut b.toList lo hi).toArray) :=
  ⟨fun s Q E q c => Subscript_ (hv.run s _ E q fun v1 s1 k1 r1 => wpAny_Slice (hl.run s1 _ E (stays_trans q (keeps_stays k1)) fun vl s2 k2 pl => hu.run s2 _ E (stays_trans q (keeps_stays (keeps_trans k1 k2))) fun vu s3 k3 pu => wpAny_pure (by
    have r1' := r1.stays (keeps_stays (keeps_trans (keeps_trans k2 k3) (keeps_push s3 { cls := .type "slice", data := .fields #[vl, vu, .none] })))
    obtain ⟨T, id, hT, hlk⟩ := rep_getitem r1' trivial
    refine sub_tail hT hlk ?_
    (first | cases r1' using Rep.intE | cases r1' using Rep.strE | cases r1' using Rep.bytesE | cases r1' using Rep.lstE | cases r1' using Rep.tupE | cases r1' using Rep.boolE | cases r1' using Rep.tyE | cases r1' using Rep.noneE | cases r1')
    have hss := Heap.IsSliceOf.new s3.heap vl vu .none
    refine getItem_meets (typeIs_bytes _ _ _) (by decide) FB.slot_bytes_getitem FB.entry_bytes_getitem (FB.args_bytes_getitem_2 _ _) (KBc.meets_slice2 b _ _ pl pu) ⟨hss, Nat.le_trans (KBc.size_picked_le b lo hi) hz, fun t' k => ?_⟩
    have := c (.bytes (KBy.picked b lo hi) t') { s3 with heap := s3.heap.push { cls := .type "slice", data := .fields #[vl, vu, .none] }, toks := k } (keeps_trans (keeps_trans (keeps_trans (keeps_trans k1 k2) k3) (keeps_push s3 _)) (keeps_tok _ k)) (by
      rw [KBc.picked_eq]
      simpa [cut] using Rep.bytes (h := s3.heap.push { cls := .type "slice", data := .fields #[vl, vu, .none] }) _ t')
    exact this)))⟩
end
end Mine

end
noncomputable section
open PySem PySem.Calls PySem.W PyProof.Rows
set_option maxRecDepth 100000
namespace Mine
section
variable {prog : Program} {w : World} {A : Around} {env : Env} {h h₀ : Heap} {K : Frag} {mg mb : Str → Option Value}

/-! names of the top -/
structure NameIs (prog : Program) (w : World) (A : Around) (env : Env) (h : Heap) (x : Str) (f : Value) : Prop where
  run : ∀ (pos : Pos) (s : Shared) (Q : Value → Shared → Prop) (E : Value → Shared → Prop), h.StaysIn s.heap → Q f s → wpAny (model prog w) A (eval (.Name x pos) env) Q E s
theorem nm_glob {x : Str} {v : Value} (G : Gr K mg mb h) (e : nsIn K mainGlobals x = some (some v)) (hx : env.kindOf x = some .globalImplicit := by rfl) (hk : env.scope.kind = .function := by rfl)
    (hg : env.globals = mainGlobals := by rfl) (hd : (x == ("__debug__" : Str)) = false := by decide) : NameIs prog w A env h x v := ⟨fun pos s Q E q c =>
  Calls.Name_function_global hk hx (Calls.loadGlobal_global (hg ▸ (G.stays q).g) (mg_of G.X G.g e) c) hd⟩
theorem nm_boot {x : Str} {v : Value} (G : Gr K mg mb h) (e : nsIn K mainGlobals x = some none) (hv : bootBuiltins x = some v) (hn : x ≠ "__name__" := by decide) (hx : env.kindOf x = some .globalImplicit := by rfl) (hk : env.scope.kind = .function := by rfl)
    (hg : env.globals = mainGlobals := by rfl) (hb : env.builtins = builtinsNs := by rfl) (hd : (x == ("__debug__" : Str)) = false := by decide) : NameIs prog w A env h x v := ⟨fun pos s Q E q c =>
  Calls.Name_function_global hk hx (Calls.loadGlobal_builtin (hg ▸ (G.stays q).g) (mg_none_of G.X G.g e) (hb ▸ (G.stays q).b) ((G.builtins x hn).trans hv) c) hd⟩
theorem ev_glob {x : Str} {v : Value} {pos : Pos} {d : D} (n : NameIs prog w A env h x v) (r : Rep h v d) : Ev prog w A env h (.Name x pos) d := ⟨fun s Q E q c => n.run pos s Q E q (c v s (keeps_refl s) (r.stays q))⟩

/-! lists of arguments -/
theorem evl_nil : EvL prog w A env h [] [] := ⟨fun pos s Q E q c => args_nil (c _ _ (keeps_refl s) .nil)⟩
theorem evl_cons {e : Expr} {rest : List Expr} {d : D} {ds : List D} (x : Ev prog w A env h e d) (r : EvL prog w A env h rest ds) (he : starEach (e :: rest) env = (false, eval e env) :: starEach rest env := by rfl) : EvL prog w A env h (e :: rest) (d :: ds) :=
  ⟨fun pos s Q E q c => args_cons (x.run s _ E q fun v s1 k1 r1 => r.run pos s1 _ E (stays_trans q (keeps_stays k1)) fun vs s2 k2 r2 => c _ _ (keeps_trans k1 k2) (.cons (r1.stays (keeps_stays k2)) r2)) he⟩

/-! displays -/
theorem ev_list {es : List Expr} {pos : Pos} {ds : List D} (x : EvL prog w A env h es ds) (hz : ds.length ≤ sizeLine := by decide) : Ev prog w A env h (.List es pos) (.lst ds) :=
  ⟨fun s Q E q c => List_ (x.run pos s _ E q fun vs s1 k1 r1 => wpAny_newObj_type (c _ _ (keeps_trans k1 (keeps_push s1 _)) (rep_newList r1)) (by show vs.toArray.size ≤ sizeLine; rw [List.size_toArray, r1.length]; exact hz))⟩
theorem ev_tuple {es : List Expr} {n : Nat} {pos : Pos} {ds : List D} (x : EvL prog w A env h es ds) (hz : ds.length ≤ sizeLine := by decide) : Ev prog w A env h (.Tuple es n pos) (.tup ds) :=
  ⟨fun s Q E q c => Tuple_ (x.run pos s _ E q fun vs s1 k1 r1 => wpAny_newObj_type (c _ _ (keeps_trans k1 (keeps_push s1 _)) (rep_newTup r1)) (by show vs.toArray.size ≤ sizeLine; rw [List.size_toArray, r1.length]; exact hz))⟩

/-! calls -/
/-- a callee that the machine knows -/
inductive Callee (h : Heap) : Value → Prop
  | builtin (id : String) : Callee h (.builtin id)
  | type (T : String) : Callee h (.type T)
  | fn {a : Addr} {o : Obj} {fd : FuncData} : h.get? a = some o → o.data = .func fd → Callee h (.ref a)
theorem Callee.stays {h h' : Heap} {f : Value} (c : Callee h f) (k : h.StaysIn h') : Callee h' f := by
  cases c with
  | builtin id => exact .builtin id
  | type T => exact .type T
  | fn a b => exact .fn (k _ _ a) b
theorem spliced_plain : ∀ (es : List Expr) (pos : Pos), (∀ e ∈ es, ∀ x p, e ≠ .Starred x p) → (backTo pos (starEach es env)).any (·.1) = false
  | [], _, _ => rfl
  | e :: es, pos, hs => by
    have he : starEach (e :: es) env = (false, eval e env) :: starEach es env := by
      cases e <;> first | rfl | exact absurd rfl (hs _ (.head _) _ _)
    rw [he]
    show (false || (backTo pos (starEach es env)).any (·.1)) = false
    rw [spliced_plain es pos fun e h => hs e (.tail _ h)]; rfl
noncomputable def noStar : List Expr → Bool
  | [] => true
  | .Starred _ _ :: _ => false
  | _ :: r => noStar r
theorem noStar_of : ∀ {es : List Expr}, noStar es = true → ∀ e ∈ es, ∀ x p, e ≠ .Starred x p
  | e :: es, hn, e', hm, x, p => by
    rcases List.mem_cons.mp hm with rfl | hm
    · rintro rfl; cases hn
    · exact noStar_of (es := es) (by cases e <;> first | exact hn | cases hn) e' hm x p
theorem evalArgs_any {es : List Expr} {pos : Pos} {f : Value} {s : Shared} {Q : Args → Shared → Prop} {E : Value → Shared → Prop} (hn : noStar es = true)
    (h : wpAny (model prog w) A (spliced (backTo pos (starEach es env))) (fun vs s' => Q ⟨vs, []⟩ s') E s) : wpAny (model prog w) A (evalArgs f true (backTo pos (starEach es env)) []) Q E s := by
  cases es with
  | nil =>
    unfold evalArgs
    show wpAny _ _ (spliced [] >>= _) Q E s
    refine wpAny_bind (wpAny_mono h (fun vs s' h' => wpAny_bind (wpAny_pure ?_)) fun _ _ x => x)
    refine wpAny_holding ?_
    exact wpAny_bind (wpAny_pure (wpAny_bind (wpAny_pure (wpAny_pure h'))))
  | cons e es =>
    have he : starEach (e :: es) env = (false, eval e env) :: starEach es env := by
      cases e <;> first | rfl | cases hn
    rw [he] at h ⊢
    exact evalArgs_plain h
theorem callWith_any {es : List Expr} {pos : Pos} {f : Value} {first : List Value} {s : Shared} {Q : Value → Shared → Prop} {E : Value → Shared → Prop} (hn : noStar es = true) (hc : Callee s.heap f)
    (h : wpAny (model prog w) A (spliced (backTo pos (starEach es env))) (fun vs s' => s.heap.StaysIn s'.heap ∧ wpAny (model prog w) A (call f (first ++ vs)) Q E s') E s) : wpAny (model prog w) A (callWith pos f first (backTo pos (starEach es env)) []) Q E s := by
  have hp := spliced_plain (env := env) es pos (noStar_of hn)
  cases hc with
  | builtin id => exact callWith_builtin hp (evalArgs_any hn (wpAny_mono h (fun _ _ x => x.2) fun _ _ x => x))
  | type T => exact PyProof.Rows.callWith_type hp (evalArgs_any hn (wpAny_mono h (fun _ _ x => x.2) fun _ _ x => x))
  | fn a b => exact callWith_function (evalArgs_any hn (wpAny_mono h (fun _ _ x => ⟨⟨x.1 _ _ a, b⟩, x.2⟩) fun _ _ x => x))
theorem ev_call {x : Str} {p pos : Pos} {es : List Expr} {f : Value} {ds : List D} {d : D} (n : NameIs prog w A env h x f) (hc : Callee h f) (a : EvL prog w A env h es ds) (c : CallD prog w A h f ds d) (hn : noStar es = true := by rfl) :
    Ev prog w A env h (.Call (.Name x p) es [] pos) d := ⟨fun s Q E q k =>
  wpAny_bind (n.run p s _ E q (callWith_any hn (hc.stays q) (a.run pos s _ E q fun vs s1 k1 r1 => ⟨keeps_stays k1, c.run s1 vs _ E (stays_trans q (keeps_stays k1)) r1 fun v s2 k2 r2 => k v s2 (keeps_trans k1 k2) r2⟩)))⟩

/-- a method: where it is found -/
structure Meth (prog : Program) (w : World) (A : Around) (d : D) (name : Str) (id : String) : Prop where
  run : ∀ (s : Shared) (v : Value) (pl : Sem Bool) (Q : Value × List Value → Shared → Prop) (E : Value → Shared → Prop), Rep s.heap v d → Q (.builtin id, [v]) s → wpAny (model prog w) A (getMethod v name pl) Q E s
theorem ev_meth {o : Expr} {name : Str} {apos pos : Pos} {es : List Expr} {pl : Sem Bool} {id : String} {d0 : D} {ds : List D} {d : D} (ho : Ev prog w A env h o d0) (hm : Meth prog w A d0 name id) (a : EvL prog w A env h es ds) (c : CallD prog w A h (.builtin id) (d0 :: ds) d)
    (hn : noStar es = true := by rfl)
    (he : eval (.Call (.Attribute o name apos) es [] pos) env = (do
      let ov ← eval o env
      standAt apos.atName
      let (f, first) ← holding [ov] (getMethod ov name pl)
      callWith pos f first (backTo pos (starEach es env)) []) := by rfl) : Ev prog w A env h (.Call (.Attribute o name apos) es [] pos) d := ⟨fun s Q E q k =>
  MethodCall_ (ho.run s _ E q fun v s1 k1 r1 => hm.run s1 v pl _ E r1 (callWith_any hn (.builtin id) (a.run pos s1 _ E (stays_trans q (keeps_stays k1)) fun vs s2 k2 r2 => ⟨keeps_stays k2, c.run s2 (v :: vs) _ E (stays_trans q (keeps_stays (keeps_trans k1 k2))) (.cons (r1.stays (keeps_stays k2)) r2)
    fun v' s3 k3 r3 => k v' s3 (keeps_trans (keeps_trans k1 k2) k3) r3⟩))) he⟩

/-! tests -/
structure Truth (prog : Program) (w : World) (A : Around) (d : D) (b : Bool) : Prop where
  run : ∀ (s : Shared) (v : Value) (Q : Bool → Shared → Prop) (E : Value → Shared → Prop), Rep s.heap v d → (∀ s', Keeps s s' → Q b s') → wpAny (model prog w) A (truthy v) Q E s
theorem truth_bool {b : Bool} : Truth prog w A (.bool b) b := ⟨fun s v Q E r c => by (first | cases r using Rep.intE | cases r using Rep.strE | cases r using Rep.bytesE | cases r using Rep.lstE | cases r using Rep.tupE | cases r using Rep.boolE | cases r using Rep.tyE | cases r using Rep.noneE | cases r); exact wpAny_truthy_bool (c s (keeps_refl s))⟩
theorem truth_int {i : Int} : Truth prog w A (.int i) (i != 0) := ⟨fun s v Q E r c => by (first | cases r using Rep.intE | cases r using Rep.strE | cases r using Rep.bytesE | cases r using Rep.lstE | cases r using Rep.tupE | cases r using Rep.boolE | cases r using Rep.tyE | cases r using Rep.noneE | cases r); exact PyProof.Rows.truthy_int (c s (keeps_refl s))⟩
theorem truth_str {x : Str} (hz : x.length ≤ sizeLine) : Truth prog w A (.str x) ((x.length : Int) != 0) := ⟨fun s v Q E r c => by
  (first | cases r using Rep.intE | cases r using Rep.strE | cases r using Rep.bytesE | cases r using Rep.lstE | cases r using Rep.tupE | cases r using Rep.boolE | cases r using Rep.tyE | cases r using Rep.noneE | cases r); exact P.truthy_str (by rw [sizeLine_eq] at hz; omega) (c _ (keeps_tok s _))⟩
theorem truth_list {ds : List D} (hz : ds.length ≤ sizeLine) : Truth prog w A (.lst ds) (!ds.isEmpty) := ⟨fun s v Q E r c => by
  cases r using Rep.lstE with
  | lst p q =>
    rename_i vs
    have e : vs.isEmpty = ds.isEmpty := by
      have := size_of_repL q
      cases ds <;> simp_all [Array.isEmpty]
    exact wpAny_truthy_list p.isList (by rw [size_of_repL q]; rw [sizeLine_eq] at hz; omega) (by rw [e]; exact c _ (keeps_tok s _))⟩
theorem tr_val {e : Expr} {d : D} {b : Bool} (x : Ev prog w A env h e d) (t : Truth prog w A d b) (he : isTrue e env (eval e env) = (do let v ← eval e env; standAt e.pos; holding [v] (truthy v)) := by rfl) : Tr prog w A env h e b :=
  ⟨fun s Q E q c => wpAny_isTrue_value (x.run s _ E q fun v s1 k1 r1 => t.run s1 v _ E r1 fun s2 k2 => c s2 (keeps_trans k1 k2)) he⟩
theorem tr_not {e : Expr} {pos : Pos} {b : Bool} (x : Tr prog w A env h e b) : Tr prog w A env h (.UnaryOp .Not e pos) (!b) := ⟨fun s Q E q c => isTrue_not (x.run s _ E q fun s1 k1 => c s1 k1)⟩
theorem tr_and1 {e : Expr} {pos : Pos} {b : Bool} (x : Tr prog w A env h e b) : Tr prog w A env h (.BoolOp .And [e] pos) b := ⟨fun s Q E q c => isTrue_and (x.run s _ E q fun s1 k1 => by
  cases b
  · exact c s1 k1
  · exact isTrue_and_nil (c s1 k1))⟩
theorem tr_and {e : Expr} {rest : List Expr} {pos : Pos} {b b' : Bool} (x : Tr prog w A env h e b) (y : b = true → Tr prog w A env h (.BoolOp .And rest pos) b') : Tr prog w A env h (.BoolOp .And (e :: rest) pos) (b && b') := ⟨fun s Q E q c => isTrue_and (x.run s _ E q fun s1 k1 => by
  cases b
  · exact c s1 k1
  · exact (y rfl).run s1 _ E (stays_trans q (keeps_stays k1)) fun s2 k2 => c s2 (keeps_trans k1 k2))⟩
theorem tr_or {e : Expr} {rest : List Expr} {pos : Pos} {b b' : Bool} (x : Tr prog w A env h e b) (y : b = false → Tr prog w A env h (.BoolOp .Or rest pos) b') : Tr prog w A env h (.BoolOp .Or (e :: rest) pos) (b || b') := ⟨fun s Q E q c => isTrue_or (x.run s _ E q fun s1 k1 => by
  cases b
  · exact (y rfl).run s1 _ E (stays_trans q (keeps_stays k1)) fun s2 k2 => c s2 (keeps_trans k1 k2)
  · exact c s1 k1)⟩
theorem tr_chain {l r1 r2 : Expr} {o1 o2 : CmpOp} {pos : Pos} {d0 d1 d2 : D} {b b' : Bool} (hl : Ev prog w A env h l d0) (h1 : Ev prog w A env h r1 d1) (h2 : Ev prog w A env h r2 d2) (c1 : Op prog w A (.cmp o1) d0 d1 (.bool b)) (c2 : Op prog w A (.cmp o2) d1 d2 (.bool b'))
    (hm : lastMarks [o1, o2] [r1, r2] = false := by with_unfolding_all rfl) : Tr prog w A env h (.Compare l [o1, o2] [r1, r2] pos) (b && b') := ⟨fun s Q E q c =>
  isTrue_chain (hl.run s _ E q fun v0 s0 k0 t0 => by
    show wpAny _ _ (do
      let rv ← holding [v0] (eval r1 env)
      standAt pos
      let c ← holding [v0, rv] (compareOp o1 v0 rv)
      release [v0, rv] [c]
      if ← holding [c, rv] (truthy c) then testChain pos rv [o2] [eval r2 env] else pure false) _ _ _
    refine wpAny_bind (wpAny_holding (h1.run s0 _ E (stays_trans q (keeps_stays k0)) fun v1 s1 k1 t1 => wpAny_bind (wpAny_standAt (wpAny_bind (wpAny_holding (c1.run s1 v0 v1 _ E (t0.stays (keeps_stays k1)) t1 fun vc s2 k2 tc => ?_))))))
    refine wpAny_bind (wpAny_mono (Q := fun _ s' => s' = s2) (E := E) (fun Γ p hΓ => by rw [Sem.wp_release]) (fun _ s' e => ?_) fun _ _ x => x)
    subst e
    cases tc
    refine wpAny_bind (wpAny_holding (wpAny_truthy_bool ?_))
    cases b
    · exact wpAny_pure (c _ (keeps_trans (keeps_trans k0 k1) k2))
    · show wpAny _ _ (do
        let rv ← holding [v1] (eval r2 env)
        standAt pos
        let c ← operate [v1, rv] (compareOp o2 v1 rv)
        holding [c] (truthy c)) _ _ _
      refine wpAny_bind (wpAny_holding (h2.run _ _ E (stays_trans q (keeps_stays (keeps_trans (keeps_trans k0 k1) k2))) fun v2 s3 k3 t2 => wpAny_bind (wpAny_standAt (wpAny_bind (wpAny_operating (c2.run s3 v1 v2 _ E (t1.stays (keeps_stays (keeps_trans k2 k3))) t2 fun vd s4 k4 td => ?_))))))
      cases td
      exact wpAny_holding (wpAny_truthy_bool (c _ (keeps_trans (keeps_trans (keeps_trans (keeps_trans k0 k1) k2) k3) k4)))) hm⟩
theorem ev_ifexp {t a b : Expr} {pos : Pos} {c : Bool} {d : D} (ht : Tr prog w A env h t c) (ha : c = true → Ev prog w A env h a d) (hb : c = false → Ev prog w A env h b d) : Ev prog w A env h (.IfExp t a b pos) d := ⟨fun s Q E q k =>
  IfExp_ (ht.run s _ E q fun s1 k1 => by
    cases c
    · exact (hb rfl).run s1 _ E (stays_trans q (keeps_stays k1)) fun v s2 k2 r => k v s2 (keeps_trans k1 k2) r
    · exact (ha rfl).run s1 _ E (stays_trans q (keeps_stays k1)) fun v s2 k2 r => k v s2 (keeps_trans k1 k2) r)⟩
theorem ev_neg {e : Expr} {pos : Pos} {i : Int} (x : Ev prog w A env h e (.int i)) : Ev prog w A env h (.UnaryOp .USub e pos) (.int (-i)) := ⟨fun s Q E q k =>
  UnaryOp_ (x.run s _ E q fun v s1 k1 r1 => by (first | cases r1 using Rep.intE | cases r1 using Rep.strE | cases r1 using Rep.bytesE | cases r1 using Rep.lstE | cases r1 using Rep.tupE | cases r1 using Rep.boolE | cases r1 using Rep.tyE | cases r1 using Rep.noneE | cases r1); exact PyProof.Rows.neg_int (k _ _ (keeps_trans k1 (keeps_tok s1 _)) (.int _ _)))⟩
end
end Mine

end
noncomputable section
open PySem PySem.Calls PySem.W PyProof.Rows
set_option maxRecDepth 100000
namespace Mine

/-- what a name owns alone -/
inductive OD where
  | lst (ds : List D)
  | obj (o : Obj)
  | acc (c : Addr) (ds : List D)
noncomputable def OwnIs (L : Addr) (h₀ h : Heap) (a : Addr) : OD → Prop
  | .lst ds => ∃ vs, h.PlainList a vs ∧ RepL h₀ vs.toList ds
  | .obj o => (a ≠ L ∧ a ≠ sysModules) ∧ h.get? a = some o ∧ ∃ es ep, o.data = .dict es ep
  | .acc _ ds => ∃ vs, h.PlainList a vs ∧ RepL h₀ vs.toList ds
/-- how it is reached -/
noncomputable def Held (env : Env) (h : Heap) (x : Str) (a : Addr) : OD → Prop
  | .acc c _ => a = c
  | _ => LookV env h x (.ref a)
theorem Held.to {env : Env} {h h' : Heap} {x : Str} {a : Addr} {od : OD} (l : Held env h x a od) (k : LookV env h x (.ref a) → LookV env h' x (.ref a)) : Held env h' x a od := by
  cases od with
  | lst ds => exact k l
  | obj o => exact k l
  | acc c ds => exact l
theorem OwnIs.at {L a : Addr} {h₀ h h' : Heap} {od : OD} (x : OwnIs L h₀ h a od) (k : ∀ o, h.get? a = some o → h'.get? a = some o) : OwnIs L h₀ h' a od := by
  cases od with
  | lst ds => obtain ⟨vs, ⟨n, p⟩, r⟩ := x; exact ⟨vs, ⟨n, k _ p⟩, r⟩
  | acc c ds => obtain ⟨vs, ⟨n, p⟩, r⟩ := x; exact ⟨vs, ⟨n, k _ p⟩, r⟩
  | obj o => obtain ⟨h1, h2, h3⟩ := x; exact ⟨h1, k _ h2, h3⟩
theorem OwnIs.base {L a : Addr} {h₀ h h' : Heap} {od : OD} (x : OwnIs L h₀ h a od) (k : SeqSub h₀ h') : OwnIs L h' h a od := by
  cases od with
  | lst ds => obtain ⟨vs, p, r⟩ := x; exact ⟨vs, p, r.mono k⟩
  | acc c ds => obtain ⟨vs, p, r⟩ := x; exact ⟨vs, p, r.mono k⟩
  | obj o => exact x
theorem OwnIs.ne_locals {L a : Addr} {h₀ h : Heap} {od : OD} {m : Str → Option Value} (x : OwnIs L h₀ h a od) (hn : h.Ns L m) : a ≠ L := by
  cases od with
  | lst ds =>
    obtain ⟨vs, ⟨n, p⟩, r⟩ := x
    rintro rfl
    obtain ⟨o', es, ep, ho', hd', _⟩ := hn
    rw [p] at ho'; cases ho'; cases hd'
  | acc c ds =>
    obtain ⟨vs, ⟨n, p⟩, r⟩ := x
    rintro rfl
    obtain ⟨o', es, ep, ho', hd', _⟩ := hn
    rw [p] at ho'; cases ho'; cases hd'
  | obj o => exact x.1.1
theorem OwnIs.ne_cell {L a c : Addr} {h₀ h : Heap} {od : OD} {v : Option Value} (x : OwnIs L h₀ h a od) (hn : h.IsCell c v) : a ≠ c := by
  rintro rfl
  obtain ⟨o', ho', hd'⟩ := hn
  cases od with
  | lst ds => obtain ⟨vs, ⟨n, p⟩, r⟩ := x; rw [p] at ho'; cases ho'; cases hd'
  | acc c ds => obtain ⟨vs, ⟨n, p⟩, r⟩ := x; rw [p] at ho'; cases ho'; cases hd'
  | obj o => obtain ⟨h1, h2, es, ep, h3⟩ := x; rw [h2] at ho'; cases ho'; rw [h3] at hd'; cases hd'
theorem OwnIs.notFields {L a : Addr} {h₀ h : Heap} {od : OD} (x : OwnIs L h₀ h a od) : ∃ o, h.get? a = some o ∧ ∀ vs, o.data ≠ .fields vs := by
  cases od with
  | lst ds => obtain ⟨vs, ⟨n, p⟩, r⟩ := x; exact ⟨_, p, by simp⟩
  | acc c ds => obtain ⟨vs, ⟨n, p⟩, r⟩ := x; exact ⟨_, p, by simp⟩
  | obj o => obtain ⟨h1, h2, es, ep, h3⟩ := x; exact ⟨o, h2, by simp [h3]⟩

/-- a def's frame: entered at s₀, now at s -/
structure FS (env : Env) (s₀ s : Shared) (vars : Vars) (own : Option (Str × OD)) : Prop where
  same : ∃ h tk, s = { s₀ with heap := h, toks := tk }
  vs : VS env s₀.heap s.heap vars
  fresh : s₀.heap.get? env.locals = none
  locs : ∃ m, s.heap.Ns env.locals m
  cells : env.func.isSome = true → ∀ x c, env.cells.lookup x = some c → s₀.heap.get? c = none ∧ ∃ v, s.heap.IsCell c v
  capart : env.func.isSome = true → ∀ x y c, env.cells.lookup x = some c → env.cells.lookup y = some c → x = y
  own : ∀ x od, own = some (x, od) → ∃ a, Held env s.heap x a od ∧ s₀.heap.get? a = none ∧ OwnIs env.locals s₀.heap s.heap a od

theorem FS.keep {env : Env} {s₀ s : Shared} {vars : Vars} {own : Option (Str × OD)} (F : FS env s₀ s vars own) : s₀.heap.StaysIn s.heap := F.vs.keep
theorem FS.keeps {env : Env} {s₀ s : Shared} {vars : Vars} {own : Option (Str × OD)} (F : FS env s₀ s vars own) : Keeps s₀ s := by
  obtain ⟨h, tk, e⟩ := F.same
  exact ⟨h, tk, e, by have := F.keep; rw [e] at this; exact this⟩
theorem FS.step {env : Env} {s₀ s s' : Shared} {vars : Vars} {own : Option (Str × OD)} (F : FS env s₀ s vars own) (k : Keeps s s') : FS env s₀ s' vars own where
  same := by
    obtain ⟨h, tk, rfl⟩ := F.same
    obtain ⟨h', tk', rfl, _⟩ := k
    exact ⟨h', tk', rfl⟩
  vs := F.vs.stays (keeps_stays k)
  fresh := F.fresh
  locs := let ⟨m, e⟩ := F.locs; ⟨m, e.keeps (keeps_stays k)⟩
  cells := fun hf x c e => let ⟨a, v, b⟩ := F.cells hf x c e; ⟨a, v, b.keeps (keeps_stays k)⟩
  capart := F.capart
  own := fun x ds e => let ⟨a, b, c, d⟩ := F.own x ds e; ⟨a, b.to fun l => l.stays (keeps_stays k), c, d.at fun o e => keeps_stays k _ o e⟩

theorem lookup_cons_self {x : Str} {p : Bool × D} {vars : Vars} : ((x, p) :: vars).lookup x = some p := by simp [List.lookup]
theorem lookup_cons_ne {x y : Str} {p : Bool × D} {vars : Vars} (h : y ≠ x) : ((x, p) :: vars).lookup y = vars.lookup y := by
  rw [List.lookup_cons]
  have : (y == x) = false := by simpa using h
  rw [this]

section
variable {prog : Program} {w : World} {A : Around} {env : Env} {s₀ s : Shared} {vars : Vars} {own : Option (Str × OD)}

/-- a change at one address that holds no sequence -/
theorem seqSub_sameBut {a : Addr} {h h' : Heap} (hs : Heap.SameBut a h h') (ha : ∀ o, h.get? a = some o → ¬ ∃ xs n, o.data = .seq xs n) : SeqSub h h' := fun b o e q => by
  by_cases hb : b = a
  · subst hb; exact absurd q (ha o e)
  · exact (hs.2 b hb).trans e

theorem isCell_ne_ns {h : Heap} {c a : Addr} {v : Option Value} {m : Str → Option Value} (hc : h.IsCell c v) (hn : h.Ns a m) : c ≠ a := by
  rintro rfl
  obtain ⟨o, ho, hd⟩ := hc
  obtain ⟨o', es, ep, ho', hd', _⟩ := hn
  rw [ho] at ho'; cases ho'; rw [hd] at hd'; cases hd'
theorem plainList_ne_ns {h : Heap} {c a : Addr} {vs : Array Value} {m : Str → Option Value} (hc : h.PlainList c vs) (hn : h.Ns a m) : c ≠ a := by
  rintro rfl
  obtain ⟨n, ho⟩ := hc
  obtain ⟨o', es, ep, ho', hd', _⟩ := hn
  rw [ho] at ho'; cases ho'; cases hd'
theorem plainList_ne_cell {h : Heap} {c a : Addr} {vs : Array Value} {v : Option Value} (hc : h.PlainList c vs) (hn : h.IsCell a v) : c ≠ a := by
  rintro rfl
  obtain ⟨n, ho⟩ := hc
  obtain ⟨o', ho', hd'⟩ := hn
  rw [ho] at ho'; cases ho'; cases hd'

/-- storing a name -/
theorem st_store3 {x : Str} {v : Value} {d : D} {b : Bool} {Q : Unit → Shared → Prop} {E : Value → Shared → Prop} (F : FS env s₀ s vars own) (r : Rep s.heap v d) (rb : b = true → Rep s₀.heap v d)
    (hk : env.scope.kind = .function) (hx : env.kindOf x = some .local ∨ (env.kindOf x = some .cell ∧ (env.cells.lookup x).isSome = true ∧ env.func.isSome = true)) (hox : ∀ ds, own ≠ some (x, ds))
    (c : ∀ s', SeqSub s.heap s'.heap → (∀ a o, s.heap.get? a = some o → a ≠ env.locals → (∀ u, o.data ≠ .cell u) → s'.heap.get? a = some o) → LookV env s'.heap x v → FS env s₀ s' ((x, (b, d)) :: vars) own → Q () s') : wpAny (model prog w) A (storeName env x v) Q E s := by
  obtain ⟨h, tk, rfl⟩ := F.same
  rcases hx with hx | ⟨hx, hc, hfn⟩
  · obtain ⟨m, hm⟩ := F.locs
    refine wpAny_storeName_local hx hm (fun h' hn' hs' => ?_) (by rw [hk]; rfl)
    obtain ⟨oL, esL, epL, hoL, hdL, _⟩ := id hm
    have hno : ∀ o, h.get? env.locals = some o → ¬ ∃ xs n, o.data = .seq xs n := fun o e ⟨xs, n, q⟩ => by rw [hoL] at e; cases e; rw [hdL] at q; cases q
    have hsq := seqSub_sameBut hs' hno
    have look : ∀ y u, y ≠ x → LookV env h y u → LookV env h' y u := fun y u hy l => by
      rcases l with ⟨a1, m1, b1, c1⟩ | ⟨a1, cc, b1, d1⟩
      · refine .inl ⟨a1, _, hn', ?_⟩
        have : m1 y = m y := by
          obtain ⟨o1, es1, ep1, ho1, hd1, _, hf1⟩ := b1
          obtain ⟨o2, es2, ep2, ho2, hd2, _, hf2⟩ := hm
          rw [ho1] at ho2; cases ho2; rw [hd1] at hd2; cases hd2
          rw [← hf1, ← hf2]
        simp only [hy, if_false]; rw [← this]; exact c1
      · exact .inr ⟨a1, cc, b1, d1.sameBut hs' (isCell_ne_ns d1 hm)⟩
    refine c _ hsq (fun a o e hn _ => (hs'.2 a hn).trans e) (.inl ⟨hx, _, hn', by simp⟩) ⟨⟨h', _, rfl⟩, ⟨fun b' o e => ?_, fun y by' dy e => ?_⟩, F.fresh, ⟨_, hn'⟩, fun hf y cc e => ?_, F.capart, fun y ds e => ?_⟩
    · have hne : b' ≠ env.locals := by rintro rfl; rw [F.fresh] at e; cases e
      exact (hs'.2 b' hne).trans (F.keep b' o e)
    · by_cases hy : y = x
      · subst hy
        rw [lookup_cons_self] at e; cases e
        exact ⟨v, .inl ⟨hx, _, hn', by simp⟩, r.mono hsq, rb⟩
      · rw [lookup_cons_ne hy] at e
        obtain ⟨u, l, ru, rub⟩ := F.vs.get y by' dy e
        exact ⟨u, look y u hy l, ru.mono hsq, rub⟩
    · obtain ⟨a1, v1, b1⟩ := F.cells hf y cc e
      exact ⟨a1, v1, b1.sameBut hs' (isCell_ne_ns b1 hm)⟩
    · obtain ⟨a, l, fr, pl⟩ := F.own y ds e
      exact ⟨a, l.to fun l => look y _ (by rintro rfl; exact hox _ e) l, fr, pl.at fun o eo => (hs'.2 a (pl.ne_locals hm)).trans eo⟩
  · obtain ⟨cc, hcc⟩ := Option.isSome_iff_exists.mp hc
    obtain ⟨fr0, v0, hv0⟩ := F.cells hfn x cc hcc
    refine wpAny_storeName_cell hk hx hcc hv0 fun h' hc' hs' => ?_
    obtain ⟨oL, hoL, hdL⟩ := id hv0
    have hno : ∀ o, h.get? cc = some o → ¬ ∃ xs n, o.data = .seq xs n := fun o e ⟨xs, n, q⟩ => by rw [hoL] at e; cases e; rw [hdL] at q; cases q
    have hsq := seqSub_sameBut hs' hno
    have look : ∀ y u, y ≠ x → LookV env h y u → LookV env h' y u := fun y u hy l => by
      rcases l with ⟨a1, m1, b1, c1⟩ | ⟨a1, c2, b1, d1⟩
      · exact .inl ⟨a1, m1, b1.sameBut hs' (Ne.symm (isCell_ne_ns hv0 b1)), c1⟩
      · refine .inr ⟨a1, c2, b1, d1.sameBut hs' ?_⟩
        rintro rfl
        exact hy (F.capart hfn _ _ _ b1 hcc)
    refine c _ hsq (fun a o e _ hq => (hs'.2 a (by rintro rfl; rw [hoL] at e; cases e; exact hq _ hdL)).trans e) (.inr ⟨.inl hx, cc, hcc, hc'⟩) ⟨⟨h', _, rfl⟩, ⟨fun b' o e => ?_, fun y by' dy e => ?_⟩, F.fresh, ?_, fun hf y c2 e => ?_, F.capart, fun y ds e => ?_⟩
    · have hne : b' ≠ cc := by rintro rfl; rw [fr0] at e; cases e
      exact (hs'.2 b' hne).trans (F.keep b' o e)
    · by_cases hy : y = x
      · subst hy
        rw [lookup_cons_self] at e; cases e
        exact ⟨v, .inr ⟨.inl hx, cc, hcc, hc'⟩, r.mono hsq, rb⟩
      · rw [lookup_cons_ne hy] at e
        obtain ⟨u, l, ru, rub⟩ := F.vs.get y by' dy e
        exact ⟨u, look y u hy l, ru.mono hsq, rub⟩
    · obtain ⟨m, hm⟩ := F.locs
      exact ⟨m, hm.sameBut hs' (Ne.symm (isCell_ne_ns hv0 hm))⟩
    · obtain ⟨a1, v1, b1⟩ := F.cells hf y c2 e
      refine ⟨a1, ?_⟩
      by_cases hq : c2 = cc
      · subst hq; exact ⟨_, hc'⟩
      · exact ⟨v1, b1.sameBut hs' hq⟩
    · obtain ⟨a, l, fr, pl⟩ := F.own y ds e
      exact ⟨a, l.to fun l => look y _ (by rintro rfl; exact hox _ e) l, fr, pl.at fun o eo => (hs'.2 a (pl.ne_cell hv0)).trans eo⟩
theorem st_store2 {x : Str} {v : Value} {d : D} {b : Bool} {Q : Unit → Shared → Prop} {E : Value → Shared → Prop} (F : FS env s₀ s vars own) (r : Rep s.heap v d) (rb : b = true → Rep s₀.heap v d)
    (hk : env.scope.kind = .function) (hx : env.kindOf x = some .local ∨ (env.kindOf x = some .cell ∧ (env.cells.lookup x).isSome = true ∧ env.func.isSome = true)) (hox : ∀ ds, own ≠ some (x, ds))
    (c : ∀ s', SeqSub s.heap s'.heap → LookV env s'.heap x v → FS env s₀ s' ((x, (b, d)) :: vars) own → Q () s') : wpAny (model prog w) A (storeName env x v) Q E s := st_store3 F r rb hk hx hox fun s' h _ => c s' h
theorem st_store {x : Str} {v : Value} {d : D} {b : Bool} {Q : Unit → Shared → Prop} {E : Value → Shared → Prop} (F : FS env s₀ s vars own) (r : Rep s.heap v d) (rb : b = true → Rep s₀.heap v d)
    (hk : env.scope.kind = .function) (hx : env.kindOf x = some .local ∨ (env.kindOf x = some .cell ∧ (env.cells.lookup x).isSome = true ∧ env.func.isSome = true)) (hox : ∀ ds, own ≠ some (x, ds))
    (c : ∀ s', FS env s₀ s' ((x, (b, d)) :: vars) own → Q () s') : wpAny (model prog w) A (storeName env x v) Q E s := st_store2 F r rb hk hx hox fun s' _ _ => c s'

/-- may a name be stored -/
noncomputable def storable (env : Env) (x : Str) : Bool := env.scope.kind == .function && (env.kindOf x == some .local || (env.kindOf x == some .cell && ((env.cells.lookup x).isSome && env.func.isSome)))
theorem storable_of {x : Str} (e : storable env x = true) : env.scope.kind = .function ∧ (env.kindOf x = some .local ∨ (env.kindOf x = some .cell ∧ (env.cells.lookup x).isSome = true ∧ env.func.isSome = true)) := by
  unfold storable at e
  simp only [Bool.and_eq_true, Bool.or_eq_true, beq_iff_eq] at e
  exact e
noncomputable def notOwn (own : Option (Str × OD)) (x : Str) : Bool := match own with | some (y, _) => !(y == x) | none => true
theorem notOwn_of {x : Str} (e : notOwn own x = true) : ∀ ds, own ≠ some (x, ds) := by
  rintro ds rfl
  simp [notOwn] at e

/-! statements -/
variable {Q : Flow → Shared → Prop} {E : Value → Shared → Prop} {rest : List Stmt}
theorem ex_assign {x : Str} {e : Expr} {p pos : Pos} {d : D} (F : FS env s₀ s vars own) (he : Ev prog w A env s.heap e d) (c : ∀ s', FS env s₀ s' ((x, (d.flat, d)) :: vars) own → wpAny (model prog w) A (execs rest env) Q E s')
    (hst : storable env x = true := by rfl) (hno : notOwn own x = true := by rfl) (hs : swapsWith e (some (.Name x p)) pos.line env = pure false := by rfl) : wpAny (model prog w) A (execs (.Assign [.Name x p] e pos :: rest) env) Q E s :=
  wpAny_execs_cons (wpAny_Assign_Name (he.run s _ E (stays_refl _) fun v s1 k1 r1 => st_store (F.step k1) r1 (fun f => r1.anyHeap f) (storable_of hst).1 (storable_of hst).2 (notOwn_of hno) c) hs)
theorem ex_return {e : Expr} {pos : Pos} {d : D} (F : FS env s₀ s vars own) (he : Ev prog w A env s.heap e d) (c : ∀ v s', FS env s₀ s' vars own → Rep s'.heap v d → Q (.ret v) s') : wpAny (model prog w) A (execs (.Return (some e) pos :: rest) env) Q E s :=
  wpAny_execs_cons (wpAny_Return_some (he.run s _ E (stays_refl _) fun v s1 k1 r1 => c v s1 (F.step k1) r1))
theorem ex_if {t : Expr} {body orelse : List Stmt} {pos : Pos} {b : Bool} (F : FS env s₀ s vars own) (ht : Tr prog w A env s.heap t b)
    (c1 : ∀ s', FS env s₀ s' vars own → b = true → wpAny (model prog w) A (execs body env) (fun f s' => match f with | .next => wpAny (model prog w) A (execs rest env) Q E s' | f => Q f s') E s')
    (c2 : ∀ s', FS env s₀ s' vars own → b = false → wpAny (model prog w) A (execs orelse env) (fun f s' => match f with | .next => wpAny (model prog w) A (execs rest env) Q E s' | f => Q f s') E s') :
    wpAny (model prog w) A (execs (.If t body orelse pos :: rest) env) Q E s :=
  wpAny_execs_cons (wpAny_If (ht.run s _ E (stays_refl _) fun s1 k1 => by
    cases b
    · exact c2 s1 (F.step k1) rfl
    · exact c1 s1 (F.step k1) rfl))
theorem ex_nil (h : Q .next s) : wpAny (model prog w) A (execs [] env) Q E s := wpAny_execs_nil h
theorem ex_continue {pos : Pos} (h : Q .cont s) : wpAny (model prog w) A (execs (.Continue pos :: rest) env) Q E s := wpAny_execs_cons (wpAny_bind (wpAny_standAt (wpAny_pure h)))
theorem ex_aug {x : Str} {e : Expr} {op : Operator} {p pos : Pos} {d1 d2 d : D} {b : Bool} (F : FS env s₀ s vars own) (hx : vars.lookup x = some (b, d1)) (he : Ev prog w A env s.heap e d2) (ho : Op prog w A (.inp op) d1 d2 d)
    (c : ∀ s', FS env s₀ s' ((x, (d.flat, d)) :: vars) own → wpAny (model prog w) A (execs rest env) Q E s')
    (hst : storable env x = true := by rfl) (hno : notOwn own x = true := by rfl) (hn : (x == ("__classdict__" : Str)) = false := by decide) : wpAny (model prog w) A (execs (.AugAssign (.Name x p) op e pos :: rest) env) Q E s := by
  obtain ⟨v, l, r, _⟩ := F.vs.get x b d1 hx
  exact wpAny_execs_cons (wpAny_AugAssign_Name (load_of_look (storable_of hst).1 l (he.run s _ E (stays_refl _) fun v2 s1 k1 r2 => ho.run s1 v v2 _ E (r.stays (keeps_stays k1)) r2 fun v3 s2 k2 r3 =>
    st_store (F.step (keeps_trans k1 k2)) r3 (fun f => r3.anyHeap f) (storable_of hst).1 (storable_of hst).2 (notOwn_of hno) c) hn))
theorem ex_assert {t : Expr} {msg : Option Expr} {pos : Pos} (F : FS env s₀ s vars own) (ht : Tr prog w A env s.heap t true) (c : ∀ s', FS env s₀ s' vars own → wpAny (model prog w) A (execs rest env) Q E s') :
    wpAny (model prog w) A (execs (.Assert t msg pos :: rest) env) Q E s := by
  refine wpAny_execs_cons ?_
  show wpAny _ _ (do standAt pos; if ← isTrue t env (eval t env) then pure Flow.next else _) _ _ _
  exact wpAny_bind (wpAny_standAt (wpAny_bind (ht.run s _ E (stays_refl _) fun s1 k1 => wpAny_pure (c s1 (F.step k1)))))

theorem FS.weaken {vars' : Vars} (F : FS env s₀ s vars own) (hs : ∀ x p, vars'.lookup x = some p → vars.lookup x = some p) : FS env s₀ s vars' own :=
  { F with vs := ⟨F.vs.keep, fun x b d e => F.vs.get x b d (hs x _ e)⟩ }
end

/-! calling a def -/
section
variable {prog : Program} {w : World} {K : Frag} {mg mb : Str → Option Value}
/-- the contract of a def: data in, data out -/
structure Fn (prog : Program) (w : World) (K : Frag) (mg mb : Str → Option Value) (n : Nat) (f : Addr) (ds : List D) (kw : List (Str × D)) (d : D) : Prop where
  run : ∀ (A : Around) (s : Shared) (vs : List Value) (kvs : List (Str × Value)) (R : Result → Shared → Prop), Fit A n → Gr K mg mb s.heap → RepL s.heap vs ds → kvs.map (·.1) = kw.map (·.1) → RepL s.heap (kvs.map (·.2)) (kw.map (·.2)) →
    (∀ v s', Keeps s s' → Rep s'.heap v d → R (.ok (.ret v)) s') → codeAny (model prog w) A (.call (.ref f) ⟨vs, kvs⟩) R s
theorem callD_fn {A : Around} {h : Heap} {n : Nat} {f : Addr} {ds : List D} {d : D} (C : Fn prog w K mg mb n f ds [] d) (G : Gr K mg mb h) (hf : Fit A n) : CallD prog w A h (.ref f) ds d := ⟨fun s vs Q E q r c =>
  wpAny_call (C.run A s vs [] _ hf (G.stays q) r rfl .nil fun v s' k rv => c v s' k rv)⟩
end
end Mine

end
noncomputable section
open PySem PySem.Calls PySem.W PyProof.Rows
set_option maxRecDepth 100000
namespace Mine
/-- parameters bound -/
inductive BR (h : Heap) : List (Str × Value) → Vars → Prop
  | nil : BR h [] []
  | cons {x : Str} {v : Value} {b : Bool} {d : D} {l : List (Str × Value)} {vars : Vars} : Rep h v d → BR h l vars → BR h ((x, v) :: l) ((x, (b, d)) :: vars)
theorem BR.look {h : Heap} : ∀ {l : List (Str × Value)} {vars : Vars}, BR h l vars → ∀ {x : Str} {b : Bool} {d : D}, vars.lookup x = some (b, d) → ∃ v, l.lookup x = some v ∧ Rep h v d
  | _, _, .nil, x, b, d, e => by simp [List.lookup] at e
  | _, _, .cons (x := y) (v := v) q r, x, b, d, e => by
    rw [List.lookup_cons] at e ⊢
    cases hxy : x == y with
    | true => rw [hxy] at e; cases e; exact ⟨v, rfl, q⟩
    | false => rw [hxy] at e; exact r.look e

section
variable {prog : Program} {w : World} {K : Frag} {mg mb : Str → Option Value} {A : Around} {s : Shared} {R : Result → Shared → Prop}
theorem enter_plain {name qual : Str} {params : Arguments} {body : List Stmt} {scope : Scope} {dV kV doc pm cdv ct oc : Value} {an od : Option Addr} {osl : Array (Option Value)} {f : Addr} {args : Args} {binds : List (Str × Value)} {vars : Vars} {n : Nat}
    (hf : Fit A n) (G : Gr K mg mb s.heap)
    (ho : K.lookup f = some ⟨oc, od, .func (fnOf name qual params body scope dV kV doc pm an cdv ct), osl⟩) (hcd : codeIn K cdv qual = true)
    (hb : ∀ S, peek K S (bindArgs (fnOf name qual params body scope dV kV doc pm an cdv ct) args) = some binds) (hloc : (binds.all fun x => decide (scope.names.lookup x.1 = some .local)) = true)
    (hrep : BR s.heap binds.reverse vars)
    (h : ∀ L s₁, FS (envOf qual scope L f cdv) s s₁ vars none →
      wpAny (model prog w) (A.deeper (envOf qual scope L f cdv)) (execs body (envOf qual scope L f cdv)) (fun fl s' => R (.ok (.ret (match fl with | .ret v => v | _ => .none))) s')
        (fun e s' => wpAny (model prog w) (A.deeper (envOf qual scope L f cdv)) (leaving (envOf qual scope L f cdv) e) (fun _ s'' => R (.error e) s'') (fun e' s'' => R (.error e') s'') s') s₁)
    (hco : scope.isCoroutine = false := by rfl) (hgen : scope.isGenerator = false := by rfl) (hk : scope.kind = .function := by rfl)
    (hcell : (scope.names.all fun x => decide (x.2 ≠ .cell)) = true := by rfl) : codeAny (model prog w) A (.call (.ref f) args) R s := by
  refine codeAny_call_def (fd := fnOf name qual params body scope dV kV doc pm an cdv ct) (body := body) (binds := binds) hf.room (G.X _ _ ho) rfl G.nolimit (codeRec_of G.X hcd) rfl (kp_binds G.X hb)
    (fun x hx => of_decide_eq_true (List.all_eq_true.mp hcell x hx)) (locs hloc) (fun h₀ hns hst => ?_) hco hgen hk
  refine h s.heap.objs.size _ ⟨⟨h₀, _, rfl⟩, ⟨hst, fun x b d e => ?_⟩, Heap.get?_none_of_le (Nat.le_refl _), ⟨_, hns⟩, fun _ x c e => ?_, fun _ x y c e => ?_, fun x ds e => ?_⟩
  · obtain ⟨v, hv, r⟩ := hrep.look e
    refine ⟨v, .inl ⟨?_, _, hns, hv⟩, r.stays hst, fun _ => r⟩
    have hm : (x, v) ∈ binds := by
      have := mem_of_lookup hv
      simpa using this
    exact locs hloc _ hm
  · cases e
  · cases e
  · cases e
end
end Mine
namespace Mine
section
variable {prog : Program} {w : World} {A : Around} {env : Env} {s₀ s : Shared} {vars : Vars} {own : Option (Str × OD)}
theorem ev_loc {x : Str} {pos : Pos} {b : Bool} {d : D} (F : FS env s₀ s vars own) (e : vars.lookup x = some (b, d)) (hk : env.scope.kind = .function := by rfl)
    (hd : (x == ("__debug__" : Str)) = false := by decide) (hn : (x == ("__classdict__" : Str)) = false := by decide) : Ev prog w A env s.heap (.Name x pos) d := ev_var F.vs e hk hd hn
theorem ev_own {x : Str} {pos : Pos} {ds : List D} (F : FS env s₀ s vars (some (x, .lst ds))) (hk : env.scope.kind = .function := by rfl)
    (hd : (x == ("__debug__" : Str)) = false := by decide) (hn : (x == ("__classdict__" : Str)) = false := by decide) : Ev prog w A env s.heap (.Name x pos) (.lst ds) := ⟨fun s' Q _ q c => by
  obtain ⟨a, l, _, vs, p, r⟩ := F.own x _ rfl
  exact wpAny_Name (load_of_look hk (l.stays q) (c _ s' (keeps_refl s') (.lst (p.at fun o e => q _ o e) (r.stays (stays_trans F.keep q)))) hn) hd⟩
end
end Mine

end
noncomputable section
open PySem PySem.Calls PySem.W PyProof.Rows
set_option maxRecDepth 100000
namespace Mine

/-! changes of the base -/
section
variable {env : Env} {b s : Shared} {vars : Vars} {own : Option (Str × OD)}
/-- the addresses that a frame may change -/
noncomputable def OwnAddr (env : Env) (b s : Shared) (own : Option (Str × OD)) (a : Addr) : Prop :=
  a = env.locals ∨ (env.func.isSome = true ∧ ∃ x, env.cells.lookup x = some a) ∨ (∃ x od, own = some (x, od) ∧ Held env s.heap x a od ∧ b.heap.get? a = none ∧ OwnIs env.locals b.heap s.heap a od)

theorem look_unique {h : Heap} {x : Str} {v v' : Value} (l : LookV env h x v) (l' : LookV env h x v') : v = v' := by
  rcases l with ⟨a, m, c, d⟩ | ⟨a, cc, c, d⟩
  · rcases l' with ⟨a', m', c', d'⟩ | ⟨a' | a', cc', c', d'⟩
    · obtain ⟨o1, es1, ep1, ho1, hd1, _, hf1⟩ := c
      obtain ⟨o2, es2, ep2, ho2, hd2, _, hf2⟩ := c'
      rw [ho1] at ho2; cases ho2; rw [hd1] at hd2; cases hd2
      rw [← hf1] at d; rw [← hf2] at d'
      rw [d] at d'; exact Option.some.inj d'
    · rw [a] at a'; cases a'
    · rw [a] at a'; cases a'
  · rcases l' with ⟨a', m', c', d'⟩ | ⟨a', cc', c', d'⟩
    · rcases a with a | a <;> · rw [a'] at a; cases a
    · rw [c] at c'; cases c'
      obtain ⟨o, ho, hd⟩ := d
      obtain ⟨o', ho', hd'⟩ := d'
      rw [ho] at ho'; cases ho'; rw [hd] at hd'; cases hd'; rfl

theorem held_unique {h : Heap} {x : Str} {a a' : Addr} {od : OD} (l : Held env h x a od) (l' : Held env h x a' od) : a = a' := by
  cases od with
  | lst ds => have := look_unique l l'; cases this; rfl
  | obj ds => have := look_unique l l'; cases this; rfl
  | acc c ds => exact l.trans l'.symm

/-- a larger base that lacks what the frame may change -/
theorem FS.rebase (F : FS env b s vars own) : ∃ g : Shared, (∃ h, g = { b with heap := h }) ∧ b.heap.StaysIn g.heap ∧ FS env g s vars own ∧ (∀ a o, s.heap.get? a = some o → ¬ OwnAddr env b s own a → g.heap.get? a = some o) := by
  obtain ⟨M, hM, hM2⟩ : ∃ M : List Addr, (∀ a ∈ M, OwnAddr env b s own a) ∧ (∀ a, OwnAddr env b s own a → a ∈ M) := by
    cases ho : own with
    | none =>
      refine ⟨env.locals :: (if env.func.isSome = true then (env.cells.map (·.2)).filter (fun a => env.cells.any fun p => env.cells.lookup p.1 == some a) else []), fun a ha => ?_, fun a ha => ?_⟩
      · rcases List.mem_cons.mp ha with rfl | ha
        · exact .inl rfl
        · by_cases hf : env.func.isSome = true
          · rw [if_pos hf] at ha
            obtain ⟨h1, h2⟩ := List.mem_filter.mp ha
            obtain ⟨p, hp, hq⟩ := List.any_eq_true.mp h2
            exact .inr (.inl ⟨hf, p.1, by simpa using hq⟩)
          · rw [if_neg hf] at ha; cases ha
      · rcases ha with rfl | ⟨hf, x, hx⟩ | ⟨x, od, h1, _⟩
        · exact .head _
        · refine .tail _ ?_
          rw [if_pos hf]
          have hm := mem_of_lookup hx
          exact List.mem_filter.mpr ⟨List.mem_map.mpr ⟨_, hm, rfl⟩, List.any_eq_true.mpr ⟨_, hm, by simpa using hx⟩⟩
        · cases h1
    | some p =>
      obtain ⟨x, ds⟩ := p
      obtain ⟨a₀, l, fr, pl⟩ := F.own x ds ho
      refine ⟨env.locals :: a₀ :: (if env.func.isSome = true then (env.cells.map (·.2)).filter (fun a => env.cells.any fun p => env.cells.lookup p.1 == some a) else []), fun a ha => ?_, fun a ha => ?_⟩
      · rcases List.mem_cons.mp ha with rfl | ha
        · exact .inl rfl
        · rcases List.mem_cons.mp ha with rfl | ha
          · exact .inr (.inr ⟨x, ds, rfl, l, fr, pl⟩)
          · by_cases hf : env.func.isSome = true
            · rw [if_pos hf] at ha
              obtain ⟨h1, h2⟩ := List.mem_filter.mp ha
              obtain ⟨p, hp, hq⟩ := List.any_eq_true.mp h2
              exact .inr (.inl ⟨hf, p.1, by simpa using hq⟩)
            · rw [if_neg hf] at ha; cases ha
      · rcases ha with rfl | ⟨hf, x, hx⟩ | ⟨x', ds', h1, h2, _⟩
        · exact .head _
        · refine .tail _ (.tail _ ?_)
          rw [if_pos hf]
          have hm := mem_of_lookup hx
          exact List.mem_filter.mpr ⟨List.mem_map.mpr ⟨_, hm, rfl⟩, List.any_eq_true.mpr ⟨_, hm, by simpa using hx⟩⟩
        · cases h1
          have : a = a₀ := held_unique h2 l
          subst this
          exact .tail _ (.head _)
  have nb : ∀ a o, b.heap.get? a = some o → a ∉ M := fun a o e hm => by
    rcases hM a hm with rfl | ⟨hf, x, hx⟩ | ⟨x, ds, _, _, fr, _⟩
    · rw [F.fresh] at e; cases e
    · rw [(F.cells hf x a hx).1] at e; cases e
    · rw [fr] at e; cases e
  have stay : b.heap.StaysIn (hideAll s.heap M) := fun a o e => hideAll_get _ (F.keep a o e) (nb a o e)
  refine ⟨{ b with heap := hideAll s.heap M }, ⟨_, rfl⟩, stay, ⟨?_, ⟨fun a o e => of_hideAll _ e, fun x f d e => ?_⟩, hideAll_none _ (hM2 _ (.inl rfl)), F.locs, fun hf x c e => ⟨hideAll_none _ (hM2 _ (.inr (.inl ⟨hf, x, e⟩))), (F.cells hf x c e).2⟩, F.capart, fun x ds e => ?_⟩, fun a o e hn => hideAll_get _ e fun hm => hn (hM a hm)⟩
  · obtain ⟨h, tk, e⟩ := F.same
    exact ⟨h, tk, by rw [e]⟩
  · obtain ⟨v, l, r, rb⟩ := F.vs.get x f d e
    exact ⟨v, l, r, fun q => (rb q).stays stay⟩
  · obtain ⟨a, l, fr, pl⟩ := F.own x ds e
    exact ⟨a, l, hideAll_none _ (hM2 _ (.inr (.inr ⟨x, ds, e, l, fr, pl⟩))), pl.base (.of_stays stay)⟩

/-- a smaller base: fields' records left out -/
theorem FS.hide (F : FS env b s vars own) (W : List Addr) (hW : ∀ a ∈ W, ∃ o vs, s.heap.get? a = some o ∧ o.data = .fields vs) : FS env { b with heap := hideAll b.heap W } s vars own := by
  have sq : SeqSub b.heap (hideAll b.heap W) := fun a o e ⟨xs, n, q⟩ => hideAll_get _ e fun hm => by
    obtain ⟨o', vs, e', q'⟩ := hW a hm
    rw [F.keep a o e] at e'; cases e'; rw [q] at q'; cases q'
  have nn : ∀ a, b.heap.get? a = none → (hideAll b.heap W).get? a = none := fun a e => by
    cases q : (hideAll b.heap W).get? a with
    | none => rfl
    | some o => have := of_hideAll W q; rw [e] at this; cases this
  refine ⟨?_, ⟨fun a o e => F.keep a o (of_hideAll _ e), fun x f d e => ?_⟩, nn _ F.fresh, F.locs, fun hf x c e => ⟨nn _ (F.cells hf x c e).1, (F.cells hf x c e).2⟩, F.capart, fun x ds e => ?_⟩
  · obtain ⟨h, tk, e⟩ := F.same
    exact ⟨h, tk, by rw [e]⟩
  · obtain ⟨v, l, r, rb⟩ := F.vs.get x f d e
    exact ⟨v, l, r, fun q => (rb q).mono sq⟩
  · obtain ⟨a, l, fr, pl⟩ := F.own x ds e
    exact ⟨a, l, nn _ fr, pl.base sq⟩

/-- records outside the base change -/
theorem FS.change {h' : Heap} {tk : Nat} (F : FS env b s vars own) (W : List Addr) (hW : ∀ a ∈ W, ∃ o vs, s.heap.get? a = some o ∧ o.data = .fields vs) (hb : ∀ a ∈ W, b.heap.get? a = none)
    (hk : ∀ a o, a ∉ W → s.heap.get? a = some o → h'.get? a = some o) : FS env b { s with heap := h', toks := tk } vars own := by
  have up : ∀ a o, s.heap.get? a = some o → (∀ vs, o.data ≠ .fields vs) → h'.get? a = some o := fun a o e q => hk a o (fun hm => by
    obtain ⟨o', vs, e', q'⟩ := hW a hm
    rw [e] at e'; cases e'; exact q vs q') e
  have sq : SeqSub s.heap h' := fun a o e ⟨xs, n, q⟩ => up a o e (by rw [q]; simp)
  have ns : ∀ a m, s.heap.Ns a m → h'.Ns a m := fun a m ⟨o, es, ep, e, q, r⟩ => ⟨o, es, ep, up a o e (by rw [q]; simp), q, r⟩
  have cell : ∀ a v, s.heap.IsCell a v → h'.IsCell a v := fun a v ⟨o, e, q⟩ => ⟨o, up a o e (by rw [q]; simp), q⟩
  have look : ∀ x v, LookV env s.heap x v → LookV env h' x v := fun x v l => by
    rcases l with ⟨a, m, c, d⟩ | ⟨a, cc, c, d⟩
    · exact .inl ⟨a, m, ns _ _ c, d⟩
    · exact .inr ⟨a, cc, c, cell _ _ d⟩
  obtain ⟨h, tk0, e0⟩ := F.same
  refine ⟨⟨h', tk, by rw [e0]⟩, ⟨fun a o e => hk a o (fun hm => by rw [hb a hm] at e; cases e) (F.keep a o e), fun x f d e => ?_⟩, F.fresh, ?_, fun hf x c e => ?_, F.capart, fun x ds e => ?_⟩
  · obtain ⟨v, l, r, rb⟩ := F.vs.get x f d e
    exact ⟨v, look _ _ l, r.mono sq, rb⟩
  · obtain ⟨m, hm⟩ := F.locs
    exact ⟨m, ns _ _ hm⟩
  · obtain ⟨a, v, q⟩ := F.cells hf x c e
    exact ⟨a, v, cell _ _ q⟩
  · obtain ⟨a, l, fr, pl⟩ := F.own x ds e
    exact ⟨a, l.to fun l => look _ _ l, fr, pl.at fun o eo => by
      obtain ⟨o', e', nf⟩ := pl.notFields
      rw [eo] at e'; cases e'
      exact up _ _ eo nf⟩
end

/-! targets -/
inductive Tgt : Expr → D → List (Str × D) → Prop
  | name (x : Str) (p : Pos) (d : D) : Tgt (.Name x p) d [(x, d)]
  | pair (x y : Str) (p q pos : Pos) (k : Nat) (d1 d2 : D) : Tgt (.Tuple [.Name x p, .Name y q] k pos) (.tup [d1, d2]) [(y, d2), (x, d1)]
noncomputable def flag (b : Bool) (bs : List (Str × D)) : Vars := bs.map fun p => (p.1, (b || p.2.flat, p.2))

section
variable {prog : Program} {w : World} {A : Around} {env : Env} {b s : Shared} {vars : Vars} {own : Option (Str × OD)} {E : Value → Shared → Prop}
theorem st_assign {target : Expr} {d : D} {bs : List (Str × D)} {v : Value} {f : Bool} {Q : Unit → Shared → Prop} (T : Tgt target d bs) (hh : A.handled = none) (F : FS env b s vars own) (r : Rep s.heap v d) (rb : f = true → Rep b.heap v d)
    (hst : (bs.all fun p => storable env p.1 && notOwn own p.1) = true) (c : ∀ s', FS env b s' (flag f bs ++ vars) own → Q () s') : wpAny (model prog w) A (assign target env v) Q E s := by
  have fl : ∀ {u : Value} {e : D}, Rep s.heap u e → (f = true → Rep b.heap u e) → (f || e.flat) = true → Rep b.heap u e := fun {u e} r1 r2 q => by
    cases f with
    | true => exact r2 rfl
    | false => exact r1.anyHeap q
  cases T with
  | name x p d =>
    simp only [List.all_cons, List.all_nil, Bool.and_true, Bool.and_eq_true] at hst
    exact wpAny_assign_Name (st_store F r (fl r rb) (storable_of hst.1).1 (storable_of hst.1).2 (notOwn_of hst.2) c)
  | pair x y p q pos k d1 d2 =>
    simp only [List.all_cons, List.all_nil, Bool.and_true, Bool.and_eq_true] at hst
    cases r using Rep.tupE with
    | tup pt rl =>
      rename_i a vs
      obtain ⟨v1, v2, e, r1, r2⟩ := rl.inv2
      have hvs : vs.size = 2 := by rw [size_of_repL rl]; rfl
      have rbs : f = true → Rep b.heap v1 d1 ∧ Rep b.heap v2 d2 := fun hf => by
        have := rb hf
        cases this with
        | tup pt' rl' =>
          obtain ⟨o', n', hn', _, hd'⟩ := pt'
          obtain ⟨o, n, hn, _, hd⟩ := pt
          have := F.keep _ _ hn'
          rw [hn] at this
          cases this
          rw [hd] at hd'
          cases hd'
          rw [e] at rl'
          obtain ⟨u1, u2, e', q1, q2⟩ := rl'.inv2
          cases e'
          exact ⟨q1, q2⟩
      refine wpAny_assign_Tuple hh pt.isTuple (by show 2 = vs.size; rw [hvs]) rfl fun h' hx => ?_
      rw [e]
      have st : s.heap.StaysIn h' := fun a o q => hx a o (Nat.ne_of_lt (Heap.lt_size q)) q
      have k1 : Keeps s { s with heap := h' } := keeps_heap st
      refine assignInOrder_cons (wpAny_assign_Name (st_store2 (F.step k1) (r1.stays st) (fun q => fl r1 (fun hf => (rbs hf).1) q) (storable_of hst.2.1).1 (storable_of hst.2.1).2 (notOwn_of hst.2.2) fun s1 sq _ F1 => ?_))
      refine assignInOrder_cons (wpAny_assign_Name (st_store F1 ((r2.stays st).mono sq) (fun q => fl r2 (fun hf => (rbs hf).2) q) (storable_of hst.1.1).1 (storable_of hst.1.1).2 (notOwn_of hst.1.2) fun s2 F2 => ?_))
      exact assignInOrder_nil (c s2 F2)
end
end Mine

end
noncomputable section
open PySem PySem.Calls PySem.W PyProof.Rows
set_option maxRecDepth 100000
namespace Mine

/-- an iterator that hands out the data ds, which live in g -/
structure Iter (prog : Program) (w : World) (A : Around) (g : Heap) (I : Addr) (fp wr : List Addr) (ds : List D) (St : Nat → Heap → Prop) (Mid : Nat → Value → Heap → Prop) (okT : Expr → Prop) (sf : Bool) : Prop where
  sub : ∀ b ∈ wr, b ∈ fp
  frame : ∀ i h h', St i h → (∀ b ∈ fp, ∀ o, h.get? b = some o → h'.get? b = some o) → St i h'
  wrF : ∀ i h, St i h → ∀ b ∈ wr, ∃ o vs, h.get? b = some o ∧ o.data = .fields vs
  midF : ∀ i v h, Mid i v h → ∀ b ∈ wr, ∃ o vs, h.get? b = some o ∧ o.data = .fields vs
  item : ∀ i d (s : Shared) (Q : Option Value → Shared → Prop) (E : Value → Shared → Prop), ds[i]? = some d → St i s.heap → SeqSub g s.heap →
    (∀ v h' tk, Rep h' v d → (sf = true → Rep g v d) → Mid i v h' → (∀ b o, b ∉ wr → s.heap.get? b = some o → h'.get? b = some o) → Q (some v) { s with heap := h', toks := tk }) → wpAny (model prog w) A (pyNext (.ref I)) Q E s
  go : ∀ i v target (s : Shared) (Q : Unit → Shared → Prop) (E : Value → Shared → Prop), Mid i v s.heap → okT target →
    (∀ h', St (i + 1) h' → (∀ b o, b ∉ wr → s.heap.get? b = some o → h'.get? b = some o) → Q () { s with heap := h' }) → wpAny (model prog w) A (letOwnedTupleGo target (.ref I) v) Q E s
  done : ∀ (s : Shared) (Q : Option Value → Shared → Prop) (E : Value → Shared → Prop), St ds.length s.heap →
    (∀ h' tk, (∀ b o, b ∉ wr → s.heap.get? b = some o → h'.get? b = some o) → Q none { s with heap := h', toks := tk }) → wpAny (model prog w) A (pyNext (.ref I)) Q E s
  self : ∀ i (s : Shared) (Q : Value → Shared → Prop) (E : Value → Shared → Prop), St i s.heap → Q (.ref I) s → wpAny (model prog w) A (pyIter (.ref I)) Q E s

noncomputable def isName : Expr → Prop
  | .Name _ _ => True
  | _ => False
noncomputable def isNameOrTuple : Expr → Prop
  | .Name _ _ => True
  | .Tuple _ _ _ => True
  | _ => False
noncomputable def isTupleT : Expr → Prop
  | .Tuple _ _ _ => True
  | _ => False
theorem go_name {prog : Program} {w : World} {A : Around} {s : Shared} {target : Expr} {I v : Value} {Q : Unit → Shared → Prop} {E : Value → Shared → Prop} (ht : isName target) (h : Q () s) : wpAny (model prog w) A (letOwnedTupleGo target I v) Q E s := by
  cases target <;> first | exact ht.elim | exact wpAny_pure h
theorem go_fields {prog : Program} {w : World} {A : Around} {s : Shared} {target : Expr} {I : Addr} {v : Value} {Q : Unit → Shared → Prop} {E : Value → Shared → Prop} {o : Obj} {n : String} (ho : s.heap.get? I = some o) (hc : o.cls = .type n)
    (hn : (["enumerate", "zip", "dict_itemiterator", "dict_reverseitemiterator", "odict_iterator", "itertools.zip_longest", "itertools.pairwise"].contains n) = false) (ht : isNameOrTuple target) (h : Q () s) : wpAny (model prog w) A (letOwnedTupleGo target (.ref I) v) Q E s := by
  cases target with
  | Name x p => exact wpAny_pure h
  | Tuple es k pos =>
    cases v with
    | ref a =>
      unfold letOwnedTupleGo
      refine wpAny_bind (wpAny_load ho ?_)
      rw [hc]
      cases hd : o.data with
      | fields vs =>
        show wpAny _ _ (if (["enumerate", "zip", "dict_itemiterator", "dict_reverseitemiterator", "odict_iterator", "itertools.zip_longest", "itertools.pairwise"].contains n && vs[0]? == some (rawInt a)) = true then _ else _) Q E s
        rw [hn, Bool.false_and, if_neg Bool.false_ne_true]
        exact wpAny_pure h
      | _ => exact wpAny_pure h
    | _ => exact wpAny_pure h
  | _ => exact ht.elim

theorem seqSub_wr {h h' : Heap} {wr : List Addr} (hw : ∀ b ∈ wr, ∃ o vs, h.get? b = some o ∧ o.data = .fields vs) (hk : ∀ b o, b ∉ wr → h.get? b = some o → h'.get? b = some o) : SeqSub h h' := fun b o e ⟨xs, n, q⟩ => hk b o (fun hm => by
  obtain ⟨o', vs, e', q'⟩ := hw b hm
  rw [e] at e'; cases e'; rw [q] at q'; cases q') e

/-- from the library's walks, where the target is a name -/
theorem iter_walk {prog : Program} {w : World} {A : Around} {g : Heap} {I : Addr} {fp wr : List Addr} {n : Nat} {P : Nat → Value → Prop} {St : Nat → Heap → Prop} {ds : List D} {okT : Expr → Prop} (W : Walks prog w A I fp wr n P St) (hn : ds.length = n)
    (hP : ∀ i v d, P i v → ds[i]? = some d → Rep g v d) (wF : ∀ i h, St i h → ∀ b ∈ wr, ∃ o vs, h.get? b = some o ∧ o.data = .fields vs)
    (go : ∀ i v target (s : Shared) (Q : Unit → Shared → Prop) (E : Value → Shared → Prop), St i s.heap → okT target → Q () s → wpAny (model prog w) A (letOwnedTupleGo target (.ref I) v) Q E s) :
    Iter prog w A g I fp wr ds St (fun i v h => St (i + 1) h ∧ P i v) okT true where
  sub := W.sub
  frame := W.frame
  wrF := wF
  midF := fun i v h m => wF _ _ m.1
  item := fun i d s Q E e st hg hQ => W.item i s Q E (by rw [← hn]; exact (List.getElem?_eq_some_iff.mp e).1) st fun v h' tk hp st' hk => by
    have hr := hP i v d hp e
    exact hQ v h' tk ((hr.mono hg).mono (seqSub_wr (wF _ _ st) hk)) (fun _ => hr) ⟨st', hp⟩ hk
  go := fun i v target s Q E m ht hQ => go _ _ _ _ _ _ m.1 ht (hQ s.heap m.1 fun _ _ _ e => e)
  done := fun s Q E st hQ => W.done s Q E (hn ▸ st) hQ
  self := W.self

theorem iter_list {prog : Program} {w : World} {A : Around} (hh : A.handled = none) {g : Heap} {I ax : Addr} (hne : ax ≠ I) {items : Array Value} {ds : List D} (r : RepL g items.toList ds) :
    Iter prog w A g I [I, ax] [I] ds (fun i h => h.IsListIter I ax i ∧ h.IsList ax items) (fun i v h => (h.IsListIter I ax (i + 1) ∧ h.IsList ax items) ∧ items[i]? = some v) isNameOrTuple true :=
  iter_walk (Walks.list hh I ax hne items) (size_of_repL r).symm (fun i v d hp e => by
    obtain ⟨v', hv, hr⟩ := r.get e
    have : items[i]? = some v' := by simpa using hv
    rw [this] at hp; cases hp; exact hr) (fun i h st b hb => by
    obtain ⟨⟨o, ho, hc, hd⟩, _⟩ := st
    simp at hb; subst hb
    exact ⟨o, _, ho, hd⟩) fun i v target s Q E st ht hQ => by
    obtain ⟨⟨o, ho, hc, hd⟩, hl⟩ := st
    exact go_fields ho hc (by decide) ht hQ
theorem iter_tuple {prog : Program} {w : World} {A : Around} (hh : A.handled = none) {g : Heap} {I ax : Addr} (hne : ax ≠ I) {items : Array Value} {ds : List D} (r : RepL g items.toList ds) :
    Iter prog w A g I [I, ax] [I] ds (fun i h => h.IsTupleIter I ax i ∧ h.IsTuple ax items) (fun i v h => (h.IsTupleIter I ax (i + 1) ∧ h.IsTuple ax items) ∧ items[i]? = some v) isNameOrTuple true :=
  iter_walk (Walks.tuple hh I ax hne items) (size_of_repL r).symm (fun i v d hp e => by
    obtain ⟨v', hv, hr⟩ := r.get e
    have : items[i]? = some v' := by simpa using hv
    rw [this] at hp; cases hp; exact hr) (fun i h st b hb => by
    obtain ⟨⟨o, ho, hc, hd⟩, _⟩ := st
    simp at hb; subst hb
    exact ⟨o, _, ho, hd⟩) fun i v target s Q E st ht hQ => by
    obtain ⟨⟨o, ho, hc, hd⟩, hl⟩ := st
    exact go_fields ho hc (by decide) ht hQ
theorem iter_range {prog : Program} {w : World} {A : Around} (hh : A.handled = none) {g : Heap} (I : Addr) (a c : Int) (n : Nat) :
    Iter prog w A g I [I] [I] ((List.range n).map fun (i : Nat) => .int (a + (i : Int) * c)) (fun i h => IsRangeIter h I (a + (i : Nat) * c) ((n : Int) - (i : Nat)) c) (fun i v h => IsRangeIter h I (a + ((i + 1 : Nat) : Int) * c) ((n : Int) - ((i + 1 : Nat) : Int)) c ∧ ∃ t, v = .int (a + i * c) t) isName true :=
  iter_walk (Walks.range hh I a c n) (by simp) (fun i v d ⟨t, hp⟩ e => by
    subst hp
    have hi : i < n := by
      have := (List.getElem?_eq_some_iff.mp e).1
      simpa using this
    simp [hi] at e
    subst e
    exact .int _ _) (fun i h st b hb => by
    simp at hb; subst hb
    exact ⟨_, _, st, rfl⟩) fun i v target s Q E st ht hQ => go_name ht hQ
theorem iter_bytes {prog : Program} {w : World} {A : Around} (hh : A.handled = none) {g : Heap} (I : Addr) (b : Array UInt8) (t : Tok) :
    Iter prog w A g I [I] [I] (b.toList.map fun c => .int (c.toNat : Int)) (fun i h => KBw.IsBytesIter h I b t i) (fun i v h => KBw.IsBytesIter h I b t (i + 1) ∧ ∃ c u, b[i]? = some c ∧ v = .int (c.toNat : Int) u) isName true :=
  iter_walk (KBw.walks hh I b t) (by simp) (fun i v d ⟨c, u, hc, hp⟩ e => by
    subst hp
    have hc' : b.toList[i]? = some c := by simpa using hc
    rw [List.getElem?_map, hc'] at e
    cases e
    exact .int _ _) (fun i h st b' hb => by
    simp at hb; subst hb
    obtain ⟨o, ho, _, hd⟩ := st
    exact ⟨o, _, ho, hd⟩) fun i v target s Q E st ht hQ => go_name ht hQ
theorem iter_str {prog : Program} {w : World} {A : Around} {g : Heap} {I : Addr} {x : Str} {t : Tok} {ty : String} (W : Walks prog w A I [I] [I] x.cps.size (SignAt x) (fun i h => h.IsStrIter I ty x t i)) :
    Iter prog w A g I [I] [I] (x.cps.toList.map fun c => .str ⟨#[c]⟩) (fun i h => h.IsStrIter I ty x t i) (fun i v h => h.IsStrIter I ty x t (i + 1) ∧ SignAt x i v) isName true :=
  iter_walk W (by simp) (fun i v d ⟨c, u, hc, hp⟩ e => by
    subst hp
    have hc' : x.cps.toList[i]? = some c := by simpa using hc
    rw [List.getElem?_map, hc'] at e
    cases e
    exact .str _ _) (fun i h st b' hb => by
    simp at hb; subst hb
    obtain ⟨o, ho, _, hd⟩ := st
    exact ⟨o, _, ho, hd⟩) fun i v target s Q E st ht hQ => go_name ht hQ

/-- an expression whose items are walked; st: the heap in which they stand for good, where that is asked -/
structure Sr (prog : Program) (w : World) (A : Around) (env : Env) (h : Heap) (st : Option Heap) (e : Expr) (ds : List D) (okT : Expr → Prop) (sf : Bool) : Prop where
  run : ∀ (s : Shared) (Q : Value → Shared → Prop) (E : Value → Shared → Prop), h.StaysIn s.heap →
    (∀ I s' g fp wr St Mid, Keeps s s' → Iter prog w A g I fp wr ds St Mid okT sf → St 0 s'.heap → SeqSub g s'.heap → (∀ b ∈ fp, b < s'.heap.objs.size) →
      (∀ b ∈ fp, ∃ o, s'.heap.get? b = some o ∧ (((∃ vs, o.data = .fields vs) ∧ b ∈ wr) ∨ ((∃ xs n, o.data = .seq xs n) ∧ ∀ g₀, st = some g₀ → (nw g₀ s.heap s'.heap).get? b = some o))) → (∀ b ∈ wr, s.heap.get? b = none) → (∀ g₀, st = some g₀ → SeqSub g (nw g₀ s.heap s'.heap)) → Q (.ref I) s') →
    wpAny (model prog w) A (eval e env) (fun x s₁ => wpAny (model prog w) A (pyIter x) Q E s₁) E s

section
variable {prog : Program} {w : World} {A : Around} {env : Env} {h : Heap}
theorem none_size (h : Heap) : h.get? h.objs.size = none := Heap.get?_none_of_le (Nat.le_refl _)
theorem none_later {s s1 : Shared} (k : Keeps s s1) : s.heap.get? s1.heap.objs.size = none := by
  cases e : s.heap.get? s1.heap.objs.size with
  | none => rfl
  | some o => have := keeps_stays k _ _ e; rw [none_size] at this; cases this
theorem sr_list {e : Expr} {ds : List D} (hh : A.handled = none) (x : Ev prog w A env h e (.lst ds)) : Sr prog w A env h none e ds isNameOrTuple true := ⟨fun s Q E q c => x.run s _ E q fun v s1 k1 r1 => by
  cases r1 using Rep.lstE with
  | lst p r =>
    obtain ⟨n, hp⟩ := id p
    have hne := Nat.ne_of_lt (Heap.lt_size hp)
    refine wpAny_pyIter_list p.isList (c _ _ s1.heap _ _ _ _ (keeps_trans k1 (keeps_push s1 _)) (iter_list hh hne r) ⟨⟨_, Heap.get?_push_size _ rfl, rfl, rfl⟩, p.isList.push _⟩ (.of_stays fun _ _ e => Heap.get?_push_of_some _ e) ?_ ?_ ?_ ?_)
    · intro b hb
      simp only [List.mem_cons, List.not_mem_nil, or_false] at hb
      rcases hb with rfl | rfl
      · simp
      · simp; exact Nat.lt_succ_of_lt (Heap.lt_size hp)
    · intro b hb
      simp only [List.mem_cons, List.not_mem_nil, or_false] at hb
      rcases hb with rfl | rfl
      · exact ⟨_, Heap.get?_push_size _ rfl, .inl ⟨⟨_, rfl⟩, .head _⟩⟩
      · exact ⟨_, Heap.get?_push_of_some _ hp, .inr ⟨⟨_, _, rfl⟩, fun g e => by cases e⟩⟩
    · intro b hb
      simp only [List.mem_cons, List.not_mem_nil, or_false] at hb
      subst hb; exact none_later k1
    · intro g e; cases e⟩
/-- a list that stands in the frame's base -/
theorem sr_stable {s₀ s : Shared} {vars : Vars} {own : Option (Str × OD)} {x : Str} {pos : Pos} {ds : List D} (hh : A.handled = none) (F : FS env s₀ s vars own) (e : vars.lookup x = some (true, .lst ds)) (hk : env.scope.kind = .function := by rfl)
    (hd : (x == ("__debug__" : Str)) = false := by decide) (hn : (x == ("__classdict__" : Str)) = false := by decide) : Sr prog w A env s.heap (some s₀.heap) (.Name x pos) ds isNameOrTuple true := ⟨fun s1 Q E q c => by
  obtain ⟨v, l, _, r0⟩ := F.vs.get x true _ e
  refine wpAny_Name (load_of_look hk (l.stays q) ?_ hn) hd
  cases r0 rfl with
  | lst p r =>
    obtain ⟨n, hp⟩ := id p
    have hp1 := q _ _ (F.keep _ _ hp)
    have hne := Nat.ne_of_lt (Heap.lt_size hp1)
    have p1 : s1.heap.PlainList _ _ := ⟨n, hp1⟩
    refine wpAny_pyIter_list p1.isList (c _ _ s₀.heap _ _ _ _ (keeps_push s1 _) (iter_list hh hne r) ⟨⟨_, Heap.get?_push_size _ rfl, rfl, rfl⟩, p1.isList.push _⟩ (.of_stays fun _ _ e => Heap.get?_push_of_some _ (q _ _ (F.keep _ _ e))) ?_ ?_ ?_ ?_)
    · intro b hb
      simp only [List.mem_cons, List.not_mem_nil, or_false] at hb
      rcases hb with rfl | rfl
      · simp
      · simp; exact Nat.lt_succ_of_lt (Heap.lt_size hp1)
    · intro b hb
      simp only [List.mem_cons, List.not_mem_nil, or_false] at hb
      rcases hb with rfl | rfl
      · exact ⟨_, Heap.get?_push_size _ rfl, .inl ⟨⟨_, rfl⟩, .head _⟩⟩
      · exact ⟨_, Heap.get?_push_of_some _ hp1, .inr ⟨⟨_, _, rfl⟩, fun g e => by cases e; exact nw_base (stays_trans (stays_trans F.keep q) (fun _ _ e => Heap.get?_push_of_some _ e)) _ _ hp⟩⟩
    · intro b hb
      simp only [List.mem_cons, List.not_mem_nil, or_false] at hb
      subst hb; exact none_size _
    · intro g e; cases e; exact .of_stays (nw_base (stays_trans (stays_trans F.keep q) (fun _ _ e => Heap.get?_push_of_some _ e)))⟩
theorem sr_bytes {e : Expr} {b : Array UInt8} {st : Option Heap} (hh : A.handled = none) (x : Ev prog w A env h e (.bytes b)) : Sr prog w A env h st e (b.toList.map fun c => .int (c.toNat : Int)) isName true := ⟨fun s Q E q c => x.run s _ E q fun v s1 k1 r1 => by
  (first | cases r1 using Rep.intE | cases r1 using Rep.strE | cases r1 using Rep.bytesE | cases r1 using Rep.lstE | cases r1 using Rep.tupE | cases r1 using Rep.boolE | cases r1 using Rep.tyE | cases r1 using Rep.noneE | cases r1)
  refine KBw.pyIter_bytes (c _ _ {} _ _ _ _ (keeps_trans k1 (keeps_push s1 _)) (iter_bytes hh _ b _) ⟨_, Heap.get?_push_size _ rfl, rfl, rfl⟩ (fun b o e => by cases e) ?_ ?_ ?_ ?_)
  · intro b hb
    simp only [List.mem_cons, List.not_mem_nil, or_false] at hb
    subst hb; simp
  · intro b hb
    simp only [List.mem_cons, List.not_mem_nil, or_false] at hb
    subst hb; exact ⟨_, Heap.get?_push_size _ rfl, .inl ⟨⟨_, rfl⟩, .head _⟩⟩
  · intro b hb
    simp only [List.mem_cons, List.not_mem_nil, or_false] at hb
    subst hb; exact none_later k1
  · intro g e b o e; cases e⟩
theorem sr_str {e : Expr} {x : Str} {st : Option Heap} (hh : A.handled = none) (y : Ev prog w A env h e (.str x)) : Sr prog w A env h st e (x.cps.toList.map fun c => .str ⟨#[c]⟩) isName true := ⟨fun s Q E q c => y.run s _ E q fun v s1 k1 r1 => by
  (first | cases r1 using Rep.intE | cases r1 using Rep.strE | cases r1 using Rep.bytesE | cases r1 using Rep.lstE | cases r1 using Rep.tupE | cases r1 using Rep.boolE | cases r1 using Rep.tyE | cases r1 using Rep.noneE | cases r1)
  have fin : ∀ (ty : String) (t : Tok) (o : Obj), o.cls = .type ty → o.data = .fields #[.str x t, .int 0 0] → Walks prog w A s1.heap.objs.size [s1.heap.objs.size] [s1.heap.objs.size] x.cps.size (SignAt x) (fun i h => h.IsStrIter s1.heap.objs.size ty x t i) →
      Q (.ref s1.heap.objs.size) { s1 with heap := s1.heap.push o } := fun ty t o hc hd W => by
    have hfr : o.isFreed = false := by cases o; simp only at hd; subst hd; rfl
    refine c _ _ {} _ _ _ _ (keeps_trans k1 (keeps_push s1 _)) (iter_str W) ⟨o, Heap.get?_push_size _ hfr, hc, hd⟩ (fun b o e => by cases e) ?_ ?_ ?_ ?_
    · intro b hb
      simp only [List.mem_cons, List.not_mem_nil, or_false] at hb
      subst hb; simp
    · intro b hb
      simp only [List.mem_cons, List.not_mem_nil, or_false] at hb
      subst hb; exact ⟨_, Heap.get?_push_size _ hfr, .inl ⟨⟨_, hd⟩, .head _⟩⟩
    · intro b hb
      simp only [List.mem_cons, List.not_mem_nil, or_false] at hb
      subst hb; exact none_later k1
    · intro g e b o e; cases e
  cases ha : x.cps.all (· < 128)
  · exact wpAny_pyIter_wide ha (fin _ _ _ rfl rfl (Walks.strWide hh _ x _))
  · exact wpAny_pyIter_ascii ha (fin _ _ _ rfl rfl (Walks.strAscii hh _ x _))⟩
end
end Mine

end
noncomputable section
open PySem PySem.Calls PySem.W PyProof.Rows
set_option maxRecDepth 100000
namespace Mine
/-- the base grows -/
noncomputable def Up (b b' : Shared) : Prop := (∃ h, b' = { b with heap := h }) ∧ b.heap.StaysIn b'.heap
theorem Up.refl (b : Shared) : Up b b := ⟨⟨b.heap, rfl⟩, stays_refl _⟩
theorem Up.trans {b b' b'' : Shared} (x : Up b b') (y : Up b' b'') : Up b b'' := by
  obtain ⟨⟨h, rfl⟩, e⟩ := x
  obtain ⟨⟨h', rfl⟩, e'⟩ := y
  exact ⟨⟨h', rfl⟩, stays_trans e e'⟩
theorem FS.keepsUp {env : Env} {s₀ b s : Shared} {vars : Vars} {own : Option (Str × OD)} (F : FS env b s vars own) (u : Up s₀ b) : Keeps s₀ s := by
  obtain ⟨⟨h, rfl⟩, e⟩ := u
  obtain ⟨h', tk, e'⟩ := F.same
  exact ⟨h', tk, by rw [e'], by have := stays_trans e F.keep; rw [e'] at this; exact this⟩

noncomputable abbrev Own := Option (Str × OD)

section
variable {prog : Program} {w : World} {A : Around} {env : Env} {s₀ s : Shared} {vars : Vars} {own : Own} {Q : Flow → Shared → Prop} {E : Value → Shared → Prop} {rest : List Stmt}

/-- what a turn of a loop hands on -/
noncomputable def Goes (env : Env) (b : Shared) (J : Vars → Own → Prop) (s : Shared) : Prop := ∃ b' vars' own', Up b b' ∧ J vars' own' ∧ FS env b' s vars' own'

/-- what a loop's base must hold -/
structure LB (g : Heap) (fp wr : List Addr) (b0 : Shared) : Prop where
  gb : SeqSub g b0.heap
  wb : ∀ a ∈ wr, b0.heap.get? a = none
  fb : ∀ a ∈ fp, a ∉ wr → ∃ o, b0.heap.get? a = some o
/-- a loop between two turns -/
noncomputable def LI (env : Env) (wr : List Addr) (St : Nat → Heap → Prop) (n : Nat) (b0 : Shared) (J : Nat → Vars → Own → Prop) (i : Nat) (s : Shared) : Prop :=
  ∃ b vars own, Up b0 b ∧ (∀ a ∈ wr, b.heap.get? a = none) ∧ J i vars own ∧ FS env b s vars own ∧ St i s.heap ∧ i ≤ n

theorem loop_base {s1 : Shared} {g : Heap} {I : Addr} {fp wr : List Addr} {St : Nat → Heap → Prop} {Mid : Nat → Value → Heap → Prop} {ds : List D} {okT : Expr → Prop} {sf : Bool} {st : Option Heap}
    (F : FS env s₀ s vars own) (k1 : Keeps s s1) (W : Iter prog w A g I fp wr ds St Mid okT sf) (st0 : St 0 s1.heap) (hg : SeqSub g s1.heap)
    (hfp : ∀ b ∈ fp, ∃ o, s1.heap.get? b = some o ∧ (((∃ vs, o.data = .fields vs) ∧ b ∈ wr) ∨ ((∃ xs n, o.data = .seq xs n) ∧ ∀ g₀, st = some g₀ → (nw g₀ s.heap s1.heap).get? b = some o)))
    (hwr : ∀ b ∈ wr, s.heap.get? b = none) (hgst : ∀ g₀, st = some g₀ → SeqSub g (nw g₀ s.heap s1.heap)) (hst : own = none ∨ st = some s₀.heap) :
    ∃ b0, Up s₀ b0 ∧ FS env b0 s1 vars own ∧ LB g fp wr b0 := by
  have F1 := F.step k1
  have nwr0 : ∀ a ∈ wr, s₀.heap.get? a = none := fun a ha => by
    cases e : s₀.heap.get? a with
    | none => rfl
    | some o => have := F.keep a o e; rw [hwr a ha] at this; cases this
  obtain ⟨g1, ⟨hg1, rfl⟩, st1, FG, all⟩ := F1.rebase
  have nfld : ∀ a ∈ wr, ∃ o vs, s1.heap.get? a = some o ∧ o.data = .fields vs := W.wrF _ _ st0
  have notOwn1 : ∀ a o, s1.heap.get? a = some o → (∃ vs, o.data = .fields vs) ∨ ((∃ xs n, o.data = .seq xs n) ∧ (∀ g₀, st = some g₀ → (nw g₀ s.heap s1.heap).get? a = some o)) → ¬ OwnAddr env s₀ s1 own a := fun a o e q hm => by
    rcases hm with rfl | ⟨hf, x, hx⟩ | ⟨x, ds', h1, h2, h3, h4⟩
    · obtain ⟨m, o', es, ep, ho', hd', _⟩ := F1.locs
      rw [e] at ho'; cases ho'
      rcases q with ⟨vs, q⟩ | ⟨⟨xs, n, q⟩, _⟩ <;> · rw [hd'] at q; cases q
    · obtain ⟨_, v, o', ho', hd'⟩ := F1.cells hf x a hx
      rw [e] at ho'; cases ho'
      rcases q with ⟨vs, q⟩ | ⟨⟨xs, n, q⟩, _⟩ <;> · rw [hd'] at q; cases q
    · rcases q with ⟨vs, q⟩ | ⟨_, q⟩
      · obtain ⟨o5, e5, nf⟩ := h4.notFields
        rw [e] at e5; cases e5; exact nf _ q
      · rcases hst with hst | hst
        · rw [hst] at h1; cases h1
        · obtain ⟨a', l', fr', is'⟩ := F.own x ds' h1
          have haa : a = a' := held_unique h2 (l'.to fun l => l.stays (keeps_stays k1))
          subst haa
          obtain ⟨o5, e5, _⟩ := is'.notFields
          obtain ⟨o6, e6⟩ := nw_not (q _ hst) ⟨o5, e5⟩
          rw [h3] at e6; cases e6
  refine ⟨_, ⟨⟨_, rfl⟩, fun a o e => hideAll_get wr (st1 a o e) fun hm => by rw [nwr0 a hm] at e; cases e⟩, FG.hide wr nfld, ⟨fun a o e q => ?_, fun a ha => hideAll_none _ ha, fun a ha hna => ?_⟩⟩
  · have e1 := hg a o e q
    refine hideAll_get wr (all a o e1 (notOwn1 a o e1 (.inr ⟨q, fun g₀ e0 => hgst g₀ e0 a o e q⟩))) fun hm => ?_
    obtain ⟨o', vs, e', q'⟩ := nfld a hm
    obtain ⟨xs, n, q⟩ := q
    rw [e1] at e'; cases e'; rw [q] at q'; cases q'
  · obtain ⟨o, e, q⟩ := hfp a ha
    refine ⟨o, hideAll_get wr (all a o e (notOwn1 a o e ?_)) hna⟩
    rcases q with ⟨q, _⟩ | q
    · exact .inl q
    · exact .inr q

theorem loop_turn {g : Heap} {I : Addr} {fp wr : List Addr} {St : Nat → Heap → Prop} {Mid : Nat → Value → Heap → Prop} {ds : List D} {okT : Expr → Prop} {sf fl : Bool} {b0 : Shared} {J : Nat → Vars → Own → Prop} {bs : D → List (Str × D)} {i : Nat} {target : Expr}
    {P : Option Value → Shared → Prop} {Qa : Unit → Shared → Prop} {E : Value → Shared → Prop}
    (L : LB g fp wr b0) (W : Iter prog w A g I fp wr ds St Mid okT sf) (hh : A.handled = none) (hfl : fl = true → sf = true) (hok : okT target) (hT : ∀ d ∈ ds, Tgt target d (bs d))
    (hsto : ∀ i vars' own', J i vars' own' → ∀ d ∈ ds, ((bs d).all fun p => storable env p.1 && notOwn own' p.1) = true)
    (hI : LI env wr St ds.length b0 J i s) (hlt : i < ds.length)
    (hP : ∀ v s1, wpAny (model prog w) A (letOwnedTupleGo target (.ref I) v) (fun _ s2 => wpAny (model prog w) A (assign target env v) Qa E s2) E s1 → P (some v) s1)
    (hQ : ∀ b s4 vars' own' d, ds[i]? = some d → Up b0 b → J i vars' own' → FS env b s4 (flag fl (bs d) ++ vars') own' → (∀ s5, Goes env b (J (i + 1)) s5 → LI env wr St ds.length b0 J (i + 1) s5) → Qa () s4) :
    wpAny (model prog w) A (pyNext (.ref I)) P E s := by
  obtain ⟨b, vars', own', ub, hbw, hJ, FB, hSt, hi⟩ := hI
  have hd : ds[i]? = some ds[i] := List.getElem?_eq_getElem hlt
  have hmem : ds[i] ∈ ds := List.getElem_mem hlt
  have hgs : SeqSub g s.heap := (L.gb.trans (.of_stays ub.2)).trans (.of_stays FB.keep)
  refine W.item i ds[i] s _ _ hd hSt hgs fun v h2 tk2 rv rvg mid hk2 => hP _ _ ?_
  have F2 := FB.change (tk := tk2) wr (W.wrF _ _ hSt) hbw hk2
  refine W.go i v target _ _ _ mid hok fun h3 hSt3 hk3 => ?_
  have F3 := F2.change (tk := tk2) wr (W.midF _ _ _ mid) hbw hk3
  have rv3 : Rep h3 v ds[i] := rv.mono (seqSub_wr (W.midF _ _ _ mid) hk3)
  generalize hs3 : ({ s with heap := h3, toks := tk2 } : Shared) = s3
  have hh3 : s3.heap = h3 := by rw [← hs3]
  rw [show ({ heap := h3, gens := s.gens, drawn := s.drawn, toks := tk2, os := s.os } : Shared) = s3 from hs3] at F3
  obtain ⟨g3, ug3, st3, FG3, all3⟩ := F3.rebase
  have up3 : Up b g3 := ⟨ug3, st3⟩
  have fp3 : ∀ a ∈ fp, ∀ o, s3.heap.get? a = some o → g3.heap.get? a = some o := fun a ha o e => all3 a o e fun hm => by
    by_cases haw : a ∈ wr
    · obtain ⟨o', vs, e', q'⟩ := W.wrF _ _ hSt3 a haw
      rw [hh3] at e; rw [e] at e'; cases e'
      rcases hm with rfl | ⟨hf, x, hx⟩ | ⟨x, ds', h1, h2', h4, h5⟩
      · obtain ⟨m, o', es, ep, ho', hd', _⟩ := F3.locs
        rw [hh3, e] at ho'; cases ho'; rw [hd'] at q'; cases q'
      · obtain ⟨_, v', o', ho', hd'⟩ := F3.cells hf x a hx
        rw [hh3, e] at ho'; cases ho'; rw [hd'] at q'; cases q'
      · obtain ⟨o5, e5, nf⟩ := h5.notFields
        rw [hh3, e] at e5; cases e5; exact nf _ q'
    · obtain ⟨o', e'⟩ := L.fb a ha haw
      have eb := ub.2 a o' e'
      rcases hm with rfl | ⟨hf, x, hx⟩ | ⟨x, ds', h1, h2', h4, h5⟩
      · rw [F3.fresh] at eb; cases eb
      · rw [(F3.cells hf x a hx).1] at eb; cases eb
      · rw [h4] at eb; cases eb
  have rv3' : Rep s3.heap v ds[i] := by rw [hh3]; exact rv3
  refine st_assign (hT _ hmem) hh FG3 rv3' (fun q => (rvg (hfl q)).mono ((L.gb.trans (.of_stays ub.2)).trans (.of_stays st3))) (hsto i vars' own' hJ _ hmem) fun s4 F4 => ?_
  have hSt4 : St (i + 1) s4.heap := W.frame _ _ _ (hh3 ▸ hSt3 : St (i + 1) s3.heap) fun a ha o e => F4.keep a o (fp3 a ha o e)
  refine hQ g3 s4 vars' own' ds[i] hd (ub.trans up3) hJ F4 ?_
  rintro s5 ⟨b5, vars5, own5, ub5, hJ5, F5⟩
  have hSt5 : St (i + 1) s5.heap := W.frame _ _ _ hSt4 fun a ha o e => by
    obtain ⟨o3, e3⟩ : ∃ o3, s3.heap.get? a = some o3 := by
      by_cases haw : a ∈ wr
      · obtain ⟨o', vs, e', q'⟩ := W.wrF _ _ hSt3 a haw
        exact ⟨o', by rw [hh3]; exact e'⟩
      · obtain ⟨o', e'⟩ := L.fb a ha haw
        exact ⟨o', F3.keep a o' (ub.2 a o' e')⟩
    have e4 := F4.keep a o3 (fp3 a ha o3 e3)
    rw [e] at e4; cases e4
    exact F5.keep a o (ub5.2 a o (fp3 a ha o e3))
  have FH := F5.hide wr (W.wrF _ _ hSt5)
  refine ⟨_, vars5, own5, ⟨?_, fun a o e => hideAll_get wr (ub5.2 a o (st3 a o (ub.2 a o e))) fun hm => by rw [L.wb a hm] at e; cases e⟩, fun a ha => hideAll_none _ ha, hJ5, FH, hSt5, hlt⟩
  obtain ⟨h1, e1⟩ := ub.1
  obtain ⟨h2', e2⟩ := ug3
  obtain ⟨h3', e3⟩ := ub5.1
  subst e1; subst e2; subst e3
  exact ⟨_, rfl⟩
theorem loop_done {g : Heap} {I : Addr} {fp wr : List Addr} {St : Nat → Heap → Prop} {Mid : Nat → Value → Heap → Prop} {ds : List D} {okT : Expr → Prop} {sf : Bool} {b0 : Shared} {J : Nat → Vars → Own → Prop} {i : Nat}
    {P : Option Value → Shared → Prop} {E : Value → Shared → Prop} (W : Iter prog w A g I fp wr ds St Mid okT sf) (hI : LI env wr St ds.length b0 J i s) (hlt : ¬ i < ds.length)
    (hP : ∀ b s4 vars' own', Up b0 b → J ds.length vars' own' → FS env b s4 vars' own' → P none s4) : wpAny (model prog w) A (pyNext (.ref I)) P E s := by
  obtain ⟨b, vars', own', ub, hbw, hJ, FB, hSt, hi⟩ := hI
  have hie : i = ds.length := by omega
  subst hie
  refine W.done s _ _ hSt fun h2 tk2 hk2 => ?_
  exact hP b _ vars' own' ub hJ (FB.change (tk := tk2) wr (W.wrF _ _ hSt) hbw hk2)

theorem ex_for {target iter : Expr} {body : List Stmt} {pos : Pos} {ds : List D} {okT : Expr → Prop} {sf fl : Bool} {st : Option Heap} (J : Nat → Vars → Own → Prop) (bs : D → List (Str × D))
    (F : FS env s₀ s vars own) (hh : A.handled = none) (src : Sr prog w A env s.heap st iter ds okT sf) (hst : own = none ∨ st = some s₀.heap) (hfl : fl = true → sf = true)
    (hok : okT target) (hT : ∀ d ∈ ds, Tgt target d (bs d))
    (hsto : ∀ i vars' own', J i vars' own' → ∀ d ∈ ds, ((bs d).all fun p => storable env p.1 && notOwn own' p.1) = true)
    (start : J 0 vars own)
    (turn : ∀ i d b s' vars' own', ds[i]? = some d → Up s₀ b → J i vars' own' → FS env b s' (flag fl (bs d) ++ vars') own' →
      wpAny (model prog w) A (execs body env) (fun f s'' => match f with | .next | .cont => Goes env b (J (i + 1)) s'' | .brk => False | .ret v => Q (.ret v) s'')
        (notedBy (model prog w) A env fun e s' => cameBackBy (model prog w) A env E e s') s')
    (done : ∀ b s' vars' own', Up s₀ b → J ds.length vars' own' → FS env b s' vars' own' → wpAny (model prog w) A (execs rest env) Q E s')
    (hs : ∀ x, foldedSetIterable iter env x = pure x := by intro _; rfl) :
    wpAny (model prog w) A (execs (.For target iter body [] pos :: rest) env) Q E s := by
  refine wpAny_execs_cons (wpAny_For (src.run s _ E (stays_refl _) fun I s1 g fp wr St Mid k1 W st0 hg hsz hfp hwr hgst => ?_) hs)
  obtain ⟨b0, ub0, F0, L⟩ := loop_base F k1 W st0 hg hfp hwr hgst hst
  refine codeAny_forLoop_any (fun n s' => ∃ i, LI env wr St ds.length b0 J i s' ∧ n = ds.length - i) (fun n s' hI => ?_) ds.length
    ⟨0, ⟨b0, vars, own, .refl _, L.wb, start, F0, st0, Nat.zero_le _⟩, rfl⟩
  obtain ⟨i, hI, rfl⟩ := hI
  by_cases hlt : i < ds.length
  · refine loop_turn L W hh hfl hok hT hsto hI hlt (fun v s1 h => h) fun b s4 vars' own' d hd ub hJ F4 go => ?_
    refine wpAny_mono (turn i d b s4 vars' own' hd (ub0.trans ub) hJ F4) (fun f s5 hf => ?_) fun _ _ x => x
    cases f with
    | next => exact ⟨_, Nat.sub_lt_sub_left hlt (Nat.lt_succ_self i), i + 1, go s5 hf, rfl⟩
    | cont => exact ⟨_, Nat.sub_lt_sub_left hlt (Nat.lt_succ_self i), i + 1, go s5 hf, rfl⟩
    | brk => exact hf.elim
    | ret v => exact hf
  · exact loop_done W hI hlt fun b s4 vars' own' ub hJ F4 => wpAny_execs_nil (done b _ vars' own' (ub0.trans ub) hJ F4)
end
end Mine

end
noncomputable section
open PySem PySem.Calls PySem.W PyProof.Rows
set_option maxRecDepth 100000
namespace Mine
section
variable {prog : Program} {w : World} {A : Around} {env : Env} {s₀ s : Shared} {vars : Vars} {own : Own} {Q : Flow → Shared → Prop} {E : Value → Shared → Prop} {rest : List Stmt}

theorem ex_while {test : Expr} {body : List Stmt} {pos : Pos} (J : Nat → Vars → Own → Prop) (n : Nat) (F : FS env s₀ s vars own) (start : J n vars own)
    (turn : ∀ n b s' vars' own', Up s₀ b → J n vars' own' → FS env b s' vars' own' → ∃ c, Tr prog w A env s'.heap test c ∧
      (∀ s'', FS env b s'' vars' own' → c = true → wpAny (model prog w) A (execs body env) (fun f s3 => match f with | .next | .cont => ∃ m, m < n ∧ Goes env b (J m) s3 | .brk => False | .ret v => Q (.ret v) s3)
        (notedBy (model prog w) A env fun e s' => cameBackBy (model prog w) A env E e s') s'') ∧
      (∀ s'', FS env b s'' vars' own' → c = false → wpAny (model prog w) A (execs rest env) Q E s'')) :
    wpAny (model prog w) A (execs (.While test body [] pos :: rest) env) Q E s := by
  refine wpAny_execs_cons (wpAny_While ?_)
  refine codeAny_whileLoop (fun n s' => ∃ b vars' own', Up s₀ b ∧ J n vars' own' ∧ FS env b s' vars' own') (fun n s' hI => ?_) n ⟨s₀, vars, own, .refl _, start, F⟩
  obtain ⟨b, vars', own', ub, hJ, FB⟩ := hI
  obtain ⟨c, ht, h1, h2⟩ := turn n b s' vars' own' ub hJ FB
  refine ht.run s' _ _ (stays_refl _) fun s'' k => ?_
  cases c with
  | false => exact wpAny_execs_nil (h2 s'' (FB.step k) rfl)
  | true =>
    refine wpAny_mono (h1 s'' (FB.step k) rfl) (fun f s3 hf => ?_) fun _ _ x => x
    have cont : (∃ m, m < n ∧ Goes env b (J m) s3) → ∃ m, m < n ∧ ∃ b vars' own', Up s₀ b ∧ J m vars' own' ∧ FS env b s3 vars' own' := by
      rintro ⟨m, hm, b', v', o', u', hJ', F'⟩
      exact ⟨m, hm, b', v', o', ub.trans u', hJ', F'⟩
    cases f with
    | next => exact cont hf
    | cont => exact cont hf
    | brk => exact hf.elim
    | ret v => exact hf

/-- data that stands in the base -/
structure EvB (prog : Program) (w : World) (A : Around) (env : Env) (g h : Heap) (e : Expr) (d : D) : Prop where
  run : ∀ (s : Shared) (Q : Value → Shared → Prop) (E : Value → Shared → Prop), h.StaysIn s.heap → (∀ v s', Keeps s s' → Rep s'.heap v d → Rep g v d → Q v s') → wpAny (model prog w) A (eval e env) Q E s
theorem evb_flat {g h : Heap} {e : Expr} {d : D} (x : Ev prog w A env h e d) (f : d.flat = true := by rfl) : EvB prog w A env g h e d := ⟨fun s Q E q c => x.run s Q E q fun v s' k r => c v s' k r (r.anyHeap f)⟩
theorem evb_var {x : Str} {pos : Pos} {d : D} (F : FS env s₀ s vars own) (e : vars.lookup x = some (true, d)) (hk : env.scope.kind = .function := by rfl)
    (hd : (x == ("__debug__" : Str)) = false := by decide) (hn : (x == ("__classdict__" : Str)) = false := by decide) : EvB prog w A env s₀.heap s.heap (.Name x pos) d := ⟨fun s' Q _ q c => by
  obtain ⟨v, l, r, rb⟩ := F.vs.get x true d e
  exact wpAny_Name (load_of_look hk (l.stays q) (c v s' (keeps_refl s') (r.stays q) (rb rfl)) hn) hd⟩

/-- the names whose data stand in the base -/
noncomputable def keepS (vars : Vars) : List Str → Vars
  | [] => []
  | y :: r => match vars.lookup y with
    | some (true, d) => (y, (true, d)) :: keepS vars r
    | _ => keepS vars r
theorem keepS_look {vars : Vars} {y : Str} {p : Bool × D} : ∀ {ns : List Str}, (keepS vars ns).lookup y = some p → p.1 = true ∧ vars.lookup y = some p
  | [], e => by cases e
  | z :: r, e => by
    unfold keepS at e
    split at e
    · rename_i d hz
      rw [List.lookup_cons] at e
      split at e
      · rename_i hyz
        cases e
        rw [beq_iff_eq.mp hyz]
        exact ⟨rfl, hz⟩
      · exact keepS_look e
    · exact keepS_look e
noncomputable def stab (vars : Vars) : Vars := keepS vars (vars.map (·.1))
inductive SubV (vars : Vars) : Vars → Prop
  | nil : SubV vars []
  | cons {x : Str} {p : Bool × D} {r : Vars} : vars.lookup x = some p → SubV vars r → SubV vars ((x, p) :: r)
theorem SubV.look {vars : Vars} : ∀ {r : Vars}, SubV vars r → ∀ {x : Str} {p : Bool × D}, r.lookup x = some p → vars.lookup x = some p
  | _, .nil, x, p, e => by cases e
  | _, .cons (x := y) h r, x, p, e => by
    rw [List.lookup_cons] at e
    split at e
    · rename_i hy
      cases e
      rw [beq_iff_eq.mp hy]; exact h
    · exact r.look e
theorem FS.sub {vars' : Vars} (F : FS env s₀ s vars own) (h : SubV vars vars') : FS env s₀ s vars' own := F.weaken fun x p e => h.look e

/-- the own list changes -/
theorem FS.own_change {x : Str} {ds ds' : List D} {a : Addr} {us us' : Array Value} {h' : Heap} {tk : Nat} (F : FS env s₀ s vars (some (x, .lst ds))) (l : LookV env s.heap x (.ref a)) (fr : s₀.heap.get? a = none) (pl : s.heap.PlainList a us)
    (hs : Heap.SameBut a s.heap h') (pl' : h'.PlainList a us') (r : RepL s₀.heap us'.toList ds') : FS env s₀ { s with heap := h', toks := tk } (stab vars) (some (x, .lst ds')) := by
  have hne : ∀ m b, s.heap.Ns b m → b ≠ a := fun m b hn => Ne.symm (plainList_ne_ns pl hn)
  have hnc : ∀ v c, s.heap.IsCell c v → c ≠ a := fun v c hn => Ne.symm (plainList_ne_cell pl hn)
  have look : ∀ y v, LookV env s.heap y v → LookV env h' y v := fun y v l => by
    rcases l with ⟨a1, m, c, d⟩ | ⟨a1, cc, c, d⟩
    · exact .inl ⟨a1, m, c.sameBut hs (hne _ _ c), d⟩
    · exact .inr ⟨a1, cc, c, d.sameBut hs (hnc _ _ d)⟩
  have keep : s₀.heap.StaysIn h' := fun b o e => (hs.2 b (by rintro rfl; rw [fr] at e; cases e)).trans (F.keep b o e)
  obtain ⟨h0, t0, e0⟩ := F.same
  refine ⟨⟨h', tk, by rw [e0]⟩, ⟨keep, fun y f d e => ?_⟩, F.fresh, ?_, fun hf y c e => ?_, F.capart, fun y es e => ?_⟩
  · obtain ⟨hf, e'⟩ := keepS_look e
    simp only at hf
    subst hf
    obtain ⟨v, lv, _, rb⟩ := F.vs.get y true d e'
    exact ⟨v, look _ _ lv, (rb rfl).stays keep, rb⟩
  · obtain ⟨m, hm⟩ := F.locs
    exact ⟨m, hm.sameBut hs (hne _ _ hm)⟩
  · obtain ⟨a1, v, q⟩ := F.cells hf y c e
    exact ⟨a1, v, q.sameBut hs (hnc _ _ q)⟩
  · cases e
    exact ⟨a, look _ _ l, fr, us', pl', r⟩

theorem ex_own {x : Str} {p lp pos : Pos} (F : FS env s₀ s vars none) (hx : vars.lookup x = none) (c : ∀ s', FS env s₀ s' vars (some (x, .lst [])) → wpAny (model prog w) A (execs rest env) Q E s')
    (hst : storable env x = true := by rfl) (hs : swapsWith (.List [] lp) (some (.Name x p)) pos.line env = pure false := by rfl) : wpAny (model prog w) A (execs (.Assign [.Name x p] (.List [] lp) pos :: rest) env) Q E s := by
  refine wpAny_execs_cons (wpAny_Assign_Name (List_ (args_nil (wpAny_newObj_type ?_ (by size_fits)))) hs)
  have k1 := keeps_push s { cls := .type "list", data := .seq ([] : List Value).toArray }
  refine st_store2 (F.step k1) (rep_newList (s := s) .nil) (fun q => by cases q) (storable_of hst).1 (storable_of hst).2 (fun ds q => by cases q) (b := false) fun s' sq l F' => c s' ?_
  refine { F' with vs := ⟨F'.vs.keep, fun y b d e => ?_⟩, own := fun y ds e => ?_ }
  · refine F'.vs.get y b d ?_
    rw [lookup_cons_ne (by rintro rfl; rw [hx] at e; cases e)]
    exact e
  · cases e
    exact ⟨_, l, F.keep.fresh, #[], ⟨0, sq _ _ (Heap.get?_push_size _ rfl) ⟨_, _, rfl⟩⟩, .nil⟩

theorem ex_append {x : Str} {ds : List D} {d : D} {e : Expr} {p ap cp pos : Pos} {pl : Sem Bool} (F : FS env s₀ s vars (some (x, .lst ds))) (he : EvB prog w A env s₀.heap s.heap e d) (hz : ds.length ≤ sizeLine)
    (c : ∀ s', FS env s₀ s' (stab vars) (some (x, .lst (ds ++ [d]))) → wpAny (model prog w) A (execs rest env) Q E s')
    (hk : env.scope.kind = .function := by rfl) (hd : (x == ("__debug__" : Str)) = false := by decide) (hn : (x == ("__classdict__" : Str)) = false := by decide) (hst : noStar [e] = true := by rfl)
    (hi : interactive env = false := by rfl) (hsw : swapsWith (.Call (.Attribute (.Name x p) "append" ap) [e] [] cp) none pos.line env = pure false := by rfl)
    (hev : eval (.Call (.Attribute (.Name x p) "append" ap) [e] [] cp) env = (do
      let ov ← eval (.Name x p) env
      standAt ap.atName
      let (f, first) ← holding [ov] (getMethod ov "append" pl)
      callWith cp f first (backTo cp (starEach [e] env)) []) := by rfl) :
    wpAny (model prog w) A (execs (.Expr (.Call (.Attribute (.Name x p) "append" ap) [e] [] cp) pos :: rest) env) Q E s := by
  obtain ⟨a, l, fr, us, ⟨n, hp⟩, r⟩ := F.own x _ rfl
  have he' : starEach (e :: []) env = (false, eval e env) :: starEach [] env := by
    cases e <;> first | rfl | cases hst
  refine wpAny_execs_cons (wpAny_Expr (MethodCall_ (wpAny_Name (load_of_look hk l ?_ hn) hd) hev) hi hsw)
  refine getMethod_list_append hp rfl rfl ?_
  refine callWith_any hst (.builtin _) (args_cons (he.run s _ E (stays_refl _) fun v s1 k1 r1 r1b => args_nil ⟨keeps_stays k1, ?_⟩) he')
  have F1 := F.step k1
  have pl1 : s1.heap.PlainList a us := ⟨n, keeps_stays k1 _ _ hp⟩
  refine wpAny_list_append_plain pl1 (fun h' pl' hs' => ?_) (by rw [size_of_repL r]; exact hz)
  refine c _ (F1.own_change (l.stays (keeps_stays k1)) fr pl1 hs' pl' ?_)
  rw [Array.toList_push]
  exact RepL.append (.one r1b) r
end
end Mine

end
noncomputable section
open PySem PySem.Calls PySem.W PyProof.Rows
set_option maxRecDepth 100000
namespace Mine
section
variable {prog : Program} {w : World} {A : Around} {env : Env} {h : Heap} {K : Frag} {mg mb : Str → Option Value}
/-! is -/
theorem cmp_is_ty {a b : String} : Op prog w A (.cmp .Is) (.ty a) (.ty b) (.bool (Value.type a == Value.type b)) := ⟨fun s v1 v2 Q E r1 r2 c => by
  (first | cases r1 using Rep.intE | cases r1 using Rep.strE | cases r1 using Rep.bytesE | cases r1 using Rep.lstE | cases r1 using Rep.tupE | cases r1 using Rep.boolE | cases r1 using Rep.tyE | cases r1 using Rep.noneE | cases r1); (first | cases r2 using Rep.intE | cases r2 using Rep.strE | cases r2 using Rep.bytesE | cases r2 using Rep.lstE | cases r2 using Rep.tupE | cases r2 using Rep.boolE | cases r2 using Rep.tyE | cases r2 using Rep.noneE | cases r2); exact wpAny_is_plain rfl (c _ _ (keeps_refl s) (.bool _))⟩
theorem cmp_is_bool_none {a : Bool} : Op prog w A (.cmp .Is) (.bool a) .none (.bool false) := ⟨fun s v1 v2 Q E r1 r2 c => by
  (first | cases r1 using Rep.intE | cases r1 using Rep.strE | cases r1 using Rep.bytesE | cases r1 using Rep.lstE | cases r1 using Rep.tupE | cases r1 using Rep.boolE | cases r1 using Rep.tyE | cases r1 using Rep.noneE | cases r1); (first | cases r2 using Rep.intE | cases r2 using Rep.strE | cases r2 using Rep.bytesE | cases r2 using Rep.lstE | cases r2 using Rep.tupE | cases r2 using Rep.boolE | cases r2 using Rep.tyE | cases r2 using Rep.noneE | cases r2); exact wpAny_is_plain rfl (c _ _ (keeps_refl s) (.bool _))⟩
theorem cmp_isnot_bytes_none {a : Array UInt8} : Op prog w A (.cmp .IsNot) (.bytes a) .none (.bool true) := ⟨fun s v1 v2 Q E r1 r2 c => by
  (first | cases r1 using Rep.intE | cases r1 using Rep.strE | cases r1 using Rep.bytesE | cases r1 using Rep.lstE | cases r1 using Rep.tupE | cases r1 using Rep.boolE | cases r1 using Rep.tyE | cases r1 using Rep.noneE | cases r1); (first | cases r2 using Rep.intE | cases r2 using Rep.strE | cases r2 using Rep.bytesE | cases r2 using Rep.lstE | cases r2 using Rep.tupE | cases r2 using Rep.boolE | cases r2 using Rep.tyE | cases r2 using Rep.noneE | cases r2); exact wpAny_isNot_plain rfl (c _ _ (keeps_refl s) (.bool _))⟩
/-! calls of types -/
theorem call_len_str {x : Str} (hz : x.length ≤ sizeLine) : CallD prog w A h (.builtin "len") [.str x] (.int x.length) := ⟨fun s vs Q E q r c => by
  obtain ⟨v, rfl, r1⟩ := r.inv1
  (first | cases r1 using Rep.intE | cases r1 using Rep.strE | cases r1 using Rep.bytesE | cases r1 using Rep.lstE | cases r1 using Rep.tupE | cases r1 using Rep.boolE | cases r1 using Rep.tyE | cases r1 using Rep.noneE | cases r1); exact P.len_str (by rw [sizeLine_eq] at hz; omega) (c _ _ (keeps_tok s _) (.int _ _))⟩
theorem call_len_bytes {x : Array UInt8} (hz : x.size ≤ sizeLine) : CallD prog w A h (.builtin "len") [.bytes x] (.int x.size) := ⟨fun s vs Q E q r c => by
  obtain ⟨v, rfl, r1⟩ := r.inv1
  (first | cases r1 using Rep.intE | cases r1 using Rep.strE | cases r1 using Rep.bytesE | cases r1 using Rep.lstE | cases r1 using Rep.tupE | cases r1 using Rep.boolE | cases r1 using Rep.tyE | cases r1 using Rep.noneE | cases r1); exact PySem.W.len_bytes (by rw [sizeLine_eq] at hz; omega) (c _ _ (keeps_tok s _) (.int _ _))⟩
theorem call_int_int {i : Int} : CallD prog w A h (.type "int") [.int i] (.int i) := ⟨fun s vs Q E q r c => by
  obtain ⟨v, rfl, r1⟩ := r.inv1
  (first | cases r1 using Rep.intE | cases r1 using Rep.strE | cases r1 using Rep.bytesE | cases r1 using Rep.lstE | cases r1 using Rep.tupE | cases r1 using Rep.boolE | cases r1 using Rep.tyE | cases r1 using Rep.noneE | cases r1); exact PySem.call_int_int (c _ _ (keeps_refl s) (.int _ _))⟩
noncomputable def D.tyName : D → String
  | .none => "NoneType" | .bool _ => "bool" | .int _ => "int" | .str _ => "str" | .bytes _ => "bytes" | .ty _ => "type" | .tup _ => "tuple" | .lst _ => "list" | .raw _ => ""
noncomputable def D.typed : D → Bool
  | .ty _ => false
  | .raw _ => false
  | _ => true
theorem rep_typeIs {s : Shared} {v : Value} {d : D} (r : Rep s.heap v d) (hd : d.typed = true) : s.TypeIs v d.tyName := by
  cases r with
  | none => rfl
  | bool b => rfl
  | int i t => exact typeIs_int s i t
  | str x t => exact typeIs_str s x t
  | bytes b t => exact typeIs_bytes s b t
  | ty n => cases hd
  | raw n => cases hd
  | tup p _ => exact p.isTup.typeIs
  | lst p _ => exact p.isList.typeIs
theorem call_type {d : D} (hd : d.typed = true) : CallD prog w A h (.type "type") [d] (.ty d.tyName) := ⟨fun s vs Q E q r c => by
  obtain ⟨v, rfl, r1⟩ := r.inv1
  exact call_type_of (rep_typeIs r1 hd) (by cases d <;> first | rfl | decide | cases hd) (c _ _ (keeps_refl s) (.ty _))⟩
theorem ints_are {g : Heap} : ∀ {vs : List Value} {ns : List Int}, RepL g vs (ns.map .int) → IntsAre vs ns
  | [], [], _ => .nil
  | v :: vs, n :: ns, .cons r rs => by (first | cases r using Rep.intE | cases r using Rep.strE | cases r using Rep.bytesE | cases r using Rep.lstE | cases r using Rep.tupE | cases r using Rep.boolE | cases r using Rep.tyE | cases r using Rep.noneE | cases r); exact .cons n _ (ints_are rs)
  | [], n :: ns, r => by (first | cases r using Rep.intE | cases r using Rep.strE | cases r using Rep.bytesE | cases r using Rep.lstE | cases r using Rep.tupE | cases r using Rep.boolE | cases r using Rep.tyE | cases r using Rep.noneE | cases r)
  | v :: vs, [], r => by (first | cases r using Rep.intE | cases r using Rep.strE | cases r using Rep.bytesE | cases r using Rep.lstE | cases r using Rep.tupE | cases r using Rep.boolE | cases r using Rep.tyE | cases r using Rep.noneE | cases r)
theorem call_bytes_ints {ns : List Int} (hh : A.handled = none) (hr : ∀ n ∈ ns, 0 ≤ n ∧ n < 256) (hz : ns.length ≤ sizeLine) : CallD prog w A h (.type "bytes") [.lst (ns.map .int)] (.bytes (byteArr ns)) := ⟨fun s vs Q E q r c => by
  obtain ⟨v, rfl, r1⟩ := r.inv1
  cases r1 with
  | @lst a us _ p r =>
    have hl : s.heap.IsList a us.toList.toArray := by rw [Array.toArray_toList]; exact p.isList
    refine PySem.call_bytes_ints hl (ints_are r) hr (by rw [r.length, List.length_map]; exact hz) hh fun h' t k hk => ?_
    exact c _ _ ⟨h', k, rfl, hk⟩ (.bytes _ _)⟩

/-! isinstance -/
theorem rep_kit {s : Shared} {v : Value} {d : D} (r : Rep s.heap v d) (hd : d.typed = true) : ∃ H : Heap → Prop, KitX K v (.type d.tyName) H ∧ H s.heap ∧ v ≠ .builtin "__main__.__loader__#opaque" := by
  cases r with
  | none => exact ⟨_, kitx_none, trivial, by simp⟩
  | bool b => exact ⟨_, kitx_bool, trivial, by simp⟩
  | int i t => exact ⟨_, kitx_int, trivial, by simp⟩
  | str x t => exact ⟨_, kitx_str, trivial, by simp⟩
  | bytes b t => exact ⟨_, kitx_bytes, trivial, by simp⟩
  | ty n => cases hd
  | raw n => cases hd
  | tup p _ => exact ⟨_, kitx_tuple, let ⟨o, n, e, c, d⟩ := p; ⟨_, e, c⟩, by simp⟩
  | lst p _ => exact ⟨_, kitx_list, let ⟨n, e⟩ := p; ⟨_, e, rfl⟩, by simp⟩
theorem call_isinstance1 {d : D} {c : String} {b : Bool} (G : Gr K mg mb h) (e : kitOne K (.type d.tyName) (.type c) = some b) (hd : d.typed = true := by rfl) : CallD prog w A h (.builtin "isinstance") [d, .ty c] (.bool b) := ⟨fun s vs Q E q r k => by
  obtain ⟨v, u, rfl, r1, r2⟩ := r.inv2
  (first | cases r2 using Rep.intE | cases r2 using Rep.strE | cases r2 using Rep.bytesE | cases r2 using Rep.lstE | cases r2 using Rep.tupE | cases r2 using Rep.boolE | cases r2 using Rep.tyE | cases r2 using Rep.noneE | cases r2)
  obtain ⟨H, Z, p, hx⟩ := rep_kit (K := K) r1 hd
  exact kia_one Z (G.stays q).X p e hx fun tk => k _ _ (keeps_tok s tk) (.bool _)⟩
theorem call_isinstance_tup {d : D} {its : List Value} {b : Bool} {tp : Addr} {dd : Option Addr} {n : Nat} {sl : Array (Option Value)} {x : Str} {p pos : Pos} {es : Expr} {q2 : Pos} {f : Str} (G : Gr K mg mb h) (hf : NameIs prog w A env h f (.builtin "isinstance")) (hv : NameIs prog w A env h x (.ref tp))
    (htp : K.lookup tp = some ⟨.type "tuple", dd, .seq its.toArray n, sl⟩) (a : Ev prog w A env h es d) (e : kitAny K (.type d.tyName) its = some b) (hst : noStar [es] = true := by rfl) (hd : d.typed = true := by rfl) : Ev prog w A env h (.Call (.Name f p) [es, .Name x q2] [] pos) (.bool b) := ⟨fun s Q E q k => by
  have he' : starEach (es :: [.Name x q2]) env = (false, eval es env) :: starEach [.Name x q2] env := by
    cases es <;> first | rfl | cases hst
  refine wpAny_bind (hf.run p s _ E q (callWith_any (by cases es <;> first | rfl | cases hst) (.builtin _) (args_cons (a.run s _ E q fun v s1 k1 r1 => args_cons (hv.run q2 s1 _ E (stays_trans q (keeps_stays k1)) (args_nil ⟨keeps_stays k1, ?_⟩)) rfl) he')))
  obtain ⟨H, Z, pp, hx⟩ := rep_kit (K := K) r1 hd
  exact kia_tup Z (G.stays (stays_trans q (keeps_stays k1))).X pp ((G.stays (stays_trans q (keeps_stays k1))).X _ _ htp) e hx fun tk => k _ _ (keeps_trans k1 (keeps_tok s1 tk)) (.bool _)⟩

/-! keyword calls of defs -/
structure EvK (prog : Program) (w : World) (A : Around) (env : Env) (h : Heap) (kws : List Keyword) (kd : List (Str × D)) : Prop where
  names : ∀ pos, (backToKw pos (keywordEach kws env)).all (·.1.isSome) = true ∧ (backToKw pos (keywordEach kws env)).filterMap (·.1) = kd.map (·.1)
  run : ∀ (pos : Pos) (s : Shared) (Q : List Value → Shared → Prop) (E : Value → Shared → Prop), h.StaysIn s.heap → (∀ vs s', Keeps s s' → RepL s'.heap vs (kd.map (·.2)) → Q vs s') → wpAny (model prog w) A (evalAll ((backToKw pos (keywordEach kws env)).map (·.2))) Q E s
theorem evk_nil : EvK prog w A env h [] [] := ⟨fun pos => ⟨rfl, rfl⟩, fun pos s Q E q c => kwAll_nil (c _ _ (keeps_refl s) .nil)⟩
theorem evk_cons {name : Str} {value : Expr} {p : Pos} {rest : List Keyword} {d : D} {kd : List (Str × D)} (x : Ev prog w A env h value d) (r : EvK prog w A env h rest kd) : EvK prog w A env h (⟨some name, value, p⟩ :: rest) ((name, d) :: kd) :=
  ⟨fun pos => ⟨by
    show (true && (backToKw pos (keywordEach rest env)).all (·.1.isSome)) = true
    rw [(r.names pos).1]; rfl, by
    show name :: (backToKw pos (keywordEach rest env)).filterMap (·.1) = _
    rw [(r.names pos).2]; rfl⟩, fun pos s Q E q c => kwAll_cons (x.run s _ E q fun v s1 k1 r1 => r.run pos s1 _ E (stays_trans q (keeps_stays k1)) fun vs s2 k2 r2 => c _ _ (keeps_trans k1 k2) (.cons (r1.stays (keeps_stays k2)) r2))⟩
theorem ev_call_kw {x : Str} {p pos : Pos} {e : Expr} {es : List Expr} {kws : List Keyword} {f : Addr} {n : Nat} {ds : List D} {kd : List (Str × D)} {d : D} {o : Obj} {fd : FuncData} (nm : NameIs prog w A env h x (.ref f)) (ho : h.get? f = some o) (hd : o.data = .func fd) (a : EvL prog w A env h (e :: es) ds) (ak : EvK prog w A env h kws kd)
    (C : Fn prog w K mg mb n f ds kd d) (G : Gr K mg mb h) (hf : Fit A n) (he : starEach (e :: es) env = (false, eval e env) :: starEach es env := by rfl) : Ev prog w A env h (.Call (.Name x p) (e :: es) kws pos) d := ⟨fun s Q E q k => by
  refine wpAny_Call_Name_kw (nm.run p s _ E q (callWith_function_kw (o := o) (fd := fd) (evalArgs_kw2 (ak.names pos).1 (a.run pos s _ E q fun vs s1 k1 r1 => ak.run pos s1 _ E (stays_trans q (keeps_stays k1)) fun ks s2 k2 r2 => ⟨⟨?_, hd⟩, ?_⟩) he)))
  · exact stays_trans q (keeps_stays (keeps_trans k1 k2)) _ _ ho
  · have hl : ks.length = (kd.map (·.1)).length := by rw [r2.length, List.length_map, List.length_map]
    refine wpAny_call (C.run A s2 ([] ++ vs) _ _ hf (G.stays (stays_trans q (keeps_stays (keeps_trans k1 k2)))) (r1.stays (keeps_stays k2)) ?_ ?_ fun v s3 k3 r3 => k v s3 (keeps_trans (keeps_trans k1 k2) k3) r3)
    · rw [(ak.names pos).2]
      exact List.map_fst_zip (by omega)
    · rw [(ak.names pos).2, List.map_snd_zip (by omega)]
      exact r2⟩
end
end Mine
namespace Mine
section
variable {prog : Program} {w : World} {A : Around} {env : Env} {h : Heap} {K : Frag} {mg mb : Str → Option Value}
theorem ev_fn {x : Str} {p pos : Pos} {es : List Expr} {f : Addr} {n : Nat} {ds : List D} {d : D} {o : Obj} {fd : FuncData} (G : Gr K mg mb h) (hf : Fit A n) (C : Fn prog w K mg mb n f ds [] d) (a : EvL prog w A env h es ds)
    (e : nsIn K mainGlobals x = some (some (.ref f)) := by rfl) (ho : K.lookup f = some o := by rfl) (hd : o.data = .func fd := by rfl) (hn : noStar es = true := by rfl)
    (hx : env.kindOf x = some .globalImplicit := by rfl) (hk : env.scope.kind = .function := by rfl) (hg : env.globals = mainGlobals := by rfl) (hdd : (x == ("__debug__" : Str)) = false := by decide) : Ev prog w A env h (.Call (.Name x p) es [] pos) d :=
  ev_call (nm_glob G e hx hk hg hdd) (.fn (G.X _ _ ho) hd) a (callD_fn C G hf) hn
theorem ev_fnk {x : Str} {p pos : Pos} {e₁ : Expr} {es : List Expr} {kws : List Keyword} {f : Addr} {n : Nat} {ds : List D} {kd : List (Str × D)} {d : D} {o : Obj} {fd : FuncData} (G : Gr K mg mb h) (hf : Fit A n) (C : Fn prog w K mg mb n f ds kd d) (a : EvL prog w A env h (e₁ :: es) ds) (ak : EvK prog w A env h kws kd)
    (e : nsIn K mainGlobals x = some (some (.ref f)) := by rfl) (ho : K.lookup f = some o := by rfl) (hd : o.data = .func fd := by rfl) (he : starEach (e₁ :: es) env = (false, eval e₁ env) :: starEach es env := by rfl)
    (hx : env.kindOf x = some .globalImplicit := by rfl) (hk : env.scope.kind = .function := by rfl) (hg : env.globals = mainGlobals := by rfl) (hdd : (x == ("__debug__" : Str)) = false := by decide) : Ev prog w A env h (.Call (.Name x p) (e₁ :: es) kws pos) d :=
  ev_call_kw (nm_glob G e hx hk hg hdd) (G.X _ _ ho) hd a ak C G hf he
theorem ev_type {x : Str} {pos : Pos} {n : String} (N : NameIs prog w A env h x (.type n)) : Ev prog w A env h (.Name x pos) (.ty n) := ev_glob N (.ty n)
end
end Mine
namespace Mine
theorem kv0 {kvs : List (Str × Value)} (hk : kvs.map (·.1) = ([] : List (Str × D)).map (·.1)) : kvs = [] := by cases kvs <;> first | rfl | cases hk
theorem kv1 {h : Heap} {kvs : List (Str × Value)} {n : Str} {d : D} (hk : kvs.map (·.1) = [(n, d)].map (·.1)) (rk : RepL h (kvs.map (·.2)) ([(n, d)].map (·.2))) : ∃ v, kvs = [(n, v)] ∧ Rep h v d := by
  match kvs, hk, rk with
  | [(m, v)], hk, rk =>
    simp at hk
    subst hk
    obtain ⟨v', e, r⟩ := rk.inv1
    cases e
    exact ⟨v, rfl, r⟩
end Mine

end
noncomputable section
open PySem PySem.Calls PySem.W PyProof.Rows
set_option maxRecDepth 100000
namespace Mine
theorem bits_le {x : Int} {k : Nat} (h : x.natAbs < 2 ^ k) : Builtin.Int.intBits x ≤ k := by
  unfold Builtin.Int.intBits
  split
  · exact Nat.zero_le _
  · rename_i hx
    have h0 : x.natAbs ≠ 0 := by
      intro e
      apply hx
      rw [Int.natAbs_eq_zero.mp e]; rfl
    exact (Nat.log2_lt h0).mpr h
theorem mulOk_right {a b : Int} (h : b.natAbs < 2 ^ 64) : IntMulOk a b := .of_right (bits_le h)
theorem and_mask (k : Nat) {x : Int} (hx : 0 ≤ x) : Builtin.bitAnd x (2 ^ k - 1) = x % 2 ^ k := by
  have h1 : (0 : Int) ≤ 2 ^ k - 1 := by have : (0 : Int) < 2 ^ k := Int.pow_pos (by decide); omega
  rw [bitAnd_pp hx h1]
  have e : ((2 : Int) ^ k - 1).toNat = 2 ^ k - 1 := by
    have : ((2 : Int) ^ k) = ((2 ^ k : Nat) : Int) := by simp
    rw [this]; have := Nat.two_pow_pos k; omega
  rw [e, Nat.and_two_pow_sub_one_eq_mod]
  obtain ⟨n, rfl⟩ := Int.eq_ofNat_of_zero_le hx
  simp
theorem and_63 {x : Int} (hx : 0 ≤ x) : Builtin.bitAnd x 63 = x % 64 := and_mask 6 hx
theorem and_65535 {x : Int} (hx : 0 ≤ x) : Builtin.bitAnd x 65535 = x % 65536 := and_mask 16 hx
theorem and_15 {x : Int} (hx : 0 ≤ x) : Builtin.bitAnd x 15 = x % 16 := and_mask 4 hx
theorem and_3 {x : Int} (hx : 0 ≤ x) : Builtin.bitAnd x 3 = x % 4 := and_mask 2 hx
theorem or_disj (k : Nat) {a b : Int} (ha : 0 ≤ a) (hb : 0 ≤ b) (hk : b < 2 ^ k) : Builtin.bitOr (a * 2 ^ k) b = a * 2 ^ k + b := by
  obtain ⟨m, rfl⟩ := Int.eq_ofNat_of_zero_le ha
  obtain ⟨n, rfl⟩ := Int.eq_ofNat_of_zero_le hb
  have hn : n < 2 ^ k := by have : ((2 : Int) ^ k) = ((2 ^ k : Nat) : Int) := by simp
                            rw [this] at hk; omega
  have hp : (0 : Int) ≤ (m : Int) * 2 ^ k := Int.mul_nonneg (by omega) (Int.le_of_lt (Int.pow_pos (by decide)))
  rw [bitOr_and, bitAnd_pp hp (by omega)]
  have e : ((m : Int) * 2 ^ k).toNat = m * 2 ^ k := by
    have : ((m : Int) * 2 ^ k) = ((m * 2 ^ k : Nat) : Int) := by simp
    rw [this]; rfl
  have z : (m * 2 ^ k) &&& n = 0 := by
    have h1 := Nat.shiftLeft_add_eq_or_of_lt hn m
    have h2 : m <<< k = m * 2 ^ k := Nat.shiftLeft_eq m k
    rw [h2] at h1
    apply Nat.eq_of_testBit_eq
    intro i
    rw [Nat.testBit_and, Nat.zero_testBit]
    by_cases hi : i < k
    · rw [Nat.mul_comm, Nat.testBit_two_pow_mul]
      simp [Nat.not_le.mpr hi]
    · have : n.testBit i = false := Nat.testBit_lt_two_pow (Nat.lt_of_lt_of_le hn (Nat.pow_le_pow_right (by decide) (Nat.not_lt.mp hi)))
      rw [this, Bool.and_false]
  rw [e]
  simp only [Int.toNat_natCast, z]
  simp
theorem fdiv_pos {a b : Int} (hb : 0 ≤ b) : a.fdiv b = a / b := Int.fdiv_eq_ediv_of_nonneg a hb
theorem fmod_pos {a b : Int} (hb : 0 ≤ b) : a.fmod b = a % b := Int.fmod_eq_emod_of_nonneg a hb
section
variable {prog : Program} {w : World} {A : Around} {env : Env} {h : Heap}
theorem ev_as {e : Expr} {d d' : D} (q : d = d') (x : Ev prog w A env h e d) : Ev prog w A env h e d' := q ▸ x
theorem op_as {t : OpT} {d1 d2 d d' : D} (q : d = d') (x : Op prog w A t d1 d2 d) : Op prog w A t d1 d2 d' := q ▸ x
end
end Mine
namespace Mine
section
variable {prog : Program} {w : World} {A : Around} {env : Env} {h : Heap}
theorem op_modp {a b : Int} (hb : 0 < b) : Op prog w A (.bin .Mod) (.int a) (.int b) (.int (a % b)) := op_as (by rw [fmod_pos (Int.le_of_lt hb)]) (op_mod_int (by omega))
theorem op_divp {a b : Int} (hb : 0 < b) (hl : b.natAbs.log2 < 9000) : Op prog w A (.bin .FloorDiv) (.int a) (.int b) (.int (a / b)) := op_as (by rw [fdiv_pos (Int.le_of_lt hb)]) (op_floordiv_int (by omega) hl)
theorem op_shr {a n : Int} (hn : 0 ≤ n) : Op prog w A (.bin .RShift) (.int a) (.int n) (.int (a / 2 ^ n.toNat)) := op_as (by rw [fdiv_pos (Int.le_of_lt (Int.pow_pos (by decide)))]) (op_rshift_int hn)
theorem op_and63 {a : Int} (ha : 0 ≤ a) : Op prog w A (.bin .BitAnd) (.int a) (.int 63) (.int (a % 64)) := op_as (by rw [and_63 ha]) op_and_int
theorem op_and65535 {a : Int} (ha : 0 ≤ a) : Op prog w A (.bin .BitAnd) (.int a) (.int 65535) (.int (a % 65536)) := op_as (by rw [and_65535 ha]) op_and_int
theorem op_and15 {a : Int} (ha : 0 ≤ a) : Op prog w A (.bin .BitAnd) (.int a) (.int 15) (.int (a % 16)) := op_as (by rw [and_15 ha]) op_and_int
theorem op_and3 {a : Int} (ha : 0 ≤ a) : Op prog w A (.bin .BitAnd) (.int a) (.int 3) (.int (a % 4)) := op_as (by rw [and_3 ha]) op_and_int
end
end Mine
namespace Mine
section
variable {prog : Program} {w : World} {A : Around} {env : Env} {h : Heap}
theorem op_shl8 {a : Int} (h0 : 0 ≤ a) (h1 : a < 2 ^ 64) : Op prog w A (.bin .LShift) (.int a) (.int 8) (.int (a * 256)) := op_as (by rw [show (2 : Int) ^ (8 : Int).toNat = 256 from rfl]) (op_lshift_int (by decide) (by have := bits_le (x := a) (k := 64) (by omega); omega))
theorem op_shl6 {a : Int} (h0 : 0 ≤ a) (h1 : a < 2 ^ 64) : Op prog w A (.bin .LShift) (.int a) (.int 6) (.int (a * 64)) := op_as (by rw [show (2 : Int) ^ (6 : Int).toNat = 64 from rfl]) (op_lshift_int (by decide) (by have := bits_le (x := a) (k := 64) (by omega); omega))
theorem op_shl4 {a : Int} (h0 : 0 ≤ a) (h1 : a < 2 ^ 64) : Op prog w A (.bin .LShift) (.int a) (.int 4) (.int (a * 16)) := op_as (by rw [show (2 : Int) ^ (4 : Int).toNat = 16 from rfl]) (op_lshift_int (by decide) (by have := bits_le (x := a) (k := 64) (by omega); omega))
theorem op_shl2 {a : Int} (h0 : 0 ≤ a) (h1 : a < 2 ^ 64) : Op prog w A (.bin .LShift) (.int a) (.int 2) (.int (a * 4)) := op_as (by rw [show (2 : Int) ^ (2 : Int).toNat = 4 from rfl]) (op_lshift_int (by decide) (by have := bits_le (x := a) (k := 64) (by omega); omega))
theorem op_or8 {a b : Int} (h0 : 0 ≤ a) (h1 : 0 ≤ b) (h2 : b < 256) : Op prog w A (.bin .BitOr) (.int (a * 256)) (.int b) (.int (a * 256 + b)) := op_as (by rw [show a * 256 = a * 2 ^ 8 from rfl, or_disj 8 h0 h1 h2]) op_or_int
theorem op_or6 {a b : Int} (h0 : 0 ≤ a) (h1 : 0 ≤ b) (h2 : b < 64) : Op prog w A (.bin .BitOr) (.int (a * 64)) (.int b) (.int (a * 64 + b)) := op_as (by rw [show a * 64 = a * 2 ^ 6 from rfl, or_disj 6 h0 h1 h2]) op_or_int
theorem op_or4 {a b : Int} (h0 : 0 ≤ a) (h1 : 0 ≤ b) (h2 : b < 16) : Op prog w A (.bin .BitOr) (.int (a * 16)) (.int b) (.int (a * 16 + b)) := op_as (by rw [show a * 16 = a * 2 ^ 4 from rfl, or_disj 4 h0 h1 h2]) op_or_int
theorem op_or2 {a b : Int} (h0 : 0 ≤ a) (h1 : 0 ≤ b) (h2 : b < 4) : Op prog w A (.bin .BitOr) (.int (a * 4)) (.int b) (.int (a * 4 + b)) := op_as (by rw [show a * 4 = a * 2 ^ 2 from rfl, or_disj 2 h0 h1 h2]) op_or_int
theorem op_shr4 {a : Int} : Op prog w A (.bin .RShift) (.int a) (.int 4) (.int (a / 16)) := op_as (by rw [show (2 : Int) ^ (4 : Int).toNat = 16 from rfl]) (op_shr (by decide))
theorem op_shr2 {a : Int} : Op prog w A (.bin .RShift) (.int a) (.int 2) (.int (a / 4)) := op_as (by rw [show (2 : Int) ^ (2 : Int).toNat = 4 from rfl]) (op_shr (by decide))
end
end Mine
namespace Mine
section
variable {prog : Program} {w : World} {A : Around} {env : Env} {h : Heap}
theorem Ev.as {e : Expr} {d d' : D} (x : Ev prog w A env h e d) (q : d = d') : Ev prog w A env h e d' := q ▸ x
theorem Tr.as {e : Expr} {b b' : Bool} (x : Tr prog w A env h e b) (q : b = b') : Tr prog w A env h e b' := q ▸ x
theorem Op.as {t : OpT} {d1 d2 d d' : D} (x : Op prog w A t d1 d2 d) (q : d = d') : Op prog w A t d1 d2 d' := q ▸ x
end
end Mine

end
noncomputable section
open PySem PySem.Calls PySem.W PyProof.Rows
set_option maxRecDepth 100000
set_option maxHeartbeats 1000000
namespace Mine
open PySem.Builtin
/-! bytes.maketrans -/
noncomputable def mkTab (f t : Array UInt8) : Array UInt8 := (f.toList.zip t.toList).foldl (fun t p => t.setIfInBounds p.1.toNat p.2) ((Array.range 256).map (·.toUInt8))
theorem setIf_size (l : List (UInt8 × UInt8)) : ∀ t : Array UInt8, (l.foldl (fun t p => t.setIfInBounds p.1.toNat p.2) t).size = t.size := by
  induction l with
  | nil => intro t; rfl
  | cons p r ih => intro t; rw [List.foldl_cons, ih]; simp
theorem mkTab_size (f t : Array UInt8) : (mkTab f t).size = 256 := by unfold mkTab; rw [setIf_size]; simp
theorem plain_mt : plainId "bytes.maketrans" = true := by decide +kernel
theorem entry_mt : entryFor table "bytes.maketrans" = some Builtin.«bytes.maketrans» := entryFor_of_tree (by kernel_rfl)
theorem check_mt (a b : Value) : checkBuiltinCall "bytes.maketrans" ⟨[a, b], []⟩ = pure () := by kernel_rfl
section
variable {prog : Program} {w : World} {A : Around} {env : Env} {h : Heap} {K : Frag} {mg mb : Str → Option Value}
theorem call_maketrans {f t : Array UInt8} (hs : f.size = t.size) : CallD prog w A h (.builtin "bytes.maketrans") [.bytes f, .bytes t] (.bytes (mkTab f t)) := ⟨fun s vs Q E q r c => by
  obtain ⟨v, u, rfl, r1, r2⟩ := r.inv2
  (first | cases r1 using Rep.intE | cases r1 using Rep.strE | cases r1 using Rep.bytesE | cases r1 using Rep.lstE | cases r1 using Rep.tupE | cases r1 using Rep.boolE | cases r1 using Rep.tyE | cases r1 using Rep.noneE | cases r1); (first | cases r2 using Rep.intE | cases r2 using Rep.strE | cases r2 using Rep.bytesE | cases r2 using Rep.lstE | cases r2 using Rep.tupE | cases r2 using Rep.boolE | cases r2 using Rep.tyE | cases r2 using Rep.noneE | cases r2)
  refine wpAny_call (codeAny_call_builtin plain_mt entry_mt ?_)
  rw [check_mt]
  refine wpAny_pure ?_
  unfold Builtin.«bytes.maketrans» Bytes.maketransM
  refine wpAny_bind (wpAny_of_eq (a := ()) (by kernel_rfl) ?_)
  refine wpAny_bind (wpAny_of_eq (a := ()) (by kernel_rfl) ?_)
  refine wpAny_bind (wpAny_of_eq (a := f) KBd.like_eq ?_)
  refine wpAny_bind (wpAny_of_eq (a := t) KBd.like_eq ?_)
  simp only [hs, bne_self_eq_false, Bool.false_eq_true, if_false]
  refine wpAny_bind (wpAny_mkBytes (wpAny_pure ?_) (by have := mkTab_size f t; unfold mkTab at this; rw [this, sizeLine_eq]; decide))
  exact c _ _ (keeps_tok s _) (.bytes _ _)⟩

/-! bytes.translate -/
theorem slot_tr : Slot "bytes" "translate" "bytes.translate" :=
  .of (owner := "bytes") (n := "translate") (by rw [typeLookup_type, builtinLookup_eq_fast]; kernel_rfl) (by decide +kernel) (by decide +kernel) (by decide +kernel)
    (by first | exact .inl (by decide +kernel) | exact .inr (by decide +kernel)) (by rw [isSubtype_type]; kernel_rfl)
theorem type_tr : typeOf (.builtin "bytes.translate") = pure (.type "method_descriptor") := by show builtinType _ = _; rw [builtinType_eq_fast]; kernel_rfl
theorem entry_tr : entryFor table "bytes.translate" = some Builtin.«bytes.translate» := entryFor_of_tree (by kernel_rfl)
theorem args_tr (a b : Value) : argsOk "bytes.translate" ⟨[a, b], []⟩ := by unfold argsOk; kernel_rfl
noncomputable def trans (t b : Array UInt8) : Array UInt8 := b.map fun c => t.getD c.toNat c
theorem meth_translate {b : Array UInt8} : Meth prog w A (.bytes b) "translate" "bytes.translate" := ⟨fun s v pl Q E r hq => by
  (first | cases r using Rep.intE | cases r using Rep.strE | cases r using Rep.bytesE | cases r using Rep.lstE | cases r using Rep.tupE | cases r using Rep.boolE | cases r using Rep.tyE | cases r using Rep.noneE | cases r)
  with_reducible exact KBd.method_of (.bytes b _) (typeIs_bytes _ _ _) slot_tr type_tr KBd.noRef hq⟩
theorem call_translate {b t : Array UInt8} (ht : t.size = 256) (hz : b.size ≤ sizeLine) : CallD prog w A h (.builtin "bytes.translate") [.bytes b, .bytes t] (.bytes (trans t b)) := ⟨fun s vs Q E q r c => by
  obtain ⟨v, u, rfl, r1, r2⟩ := r.inv2
  cases r1 using Rep.bytesE with
  | bytes t1 =>
  cases r2 using Rep.bytesE with
  | bytes t2 =>
  refine wpAny_call_entry slot_tr (typeIs_bytes _ _ _) entry_tr ?_ (args_tr _ _)
  unfold Builtin.«bytes.translate» Bytes.translateM
  refine wpAny_bind (wpAny_of_eq (a := t) KBd.like_eq ?_)
  simp only [ht, bne_self_eq_false, Bool.false_eq_true, if_false]
  refine wpAny_bind (wpAny_pure ?_)
  refine wpAny_bind (wpAny_pure ?_)
  refine wpAny_bind (wpAny_pure ?_)
  have hfl : Array.filter (fun x => !(#[] : Array UInt8).contains x) b = b := by
    have : (fun x : UInt8 => !(#[] : Array UInt8).contains x) = fun _ => true := by funext x; simp
    rw [this]; simp
  simp only [hfl]
  show wpAny _ _ (if (trans t b == b) = true then _ else _) _ _ s
  split
  · rename_i he
    have he' : trans t b = b := by simpa using he
    refine wpAny_bind (wpAny_rule (wpAny_bind ?_))
    unfold Bytes.Kind.same
    refine wpAny_bind (wpAny_typeOf (typeIs_bytes s b t1) ?_)
    refine wpAny_pure (wpAny_pure ⟨_, rfl, c _ _ (keeps_refl s) ?_⟩)
    rw [he']; exact .bytes _ _
  · refine wpAny_bind (wpAny_mkBytes (wpAny_pure ⟨_, rfl, c _ _ (keeps_tok s _) (.bytes _ _)⟩) ?_)
    show (trans t b).size ≤ sizeLine
    unfold trans; rw [Array.size_map]; exact hz⟩
end
end Mine

end
noncomputable section
open PySem PySem.Calls PySem.W PyProof.Rows
set_option maxRecDepth 100000
set_option maxHeartbeats 1000000
namespace Mine

/-! results that live in g or are new -/
structure EvN (prog : Program) (w : World) (A : Around) (env : Env) (g h : Heap) (e : Expr) (d : D) : Prop where
  run : ∀ (s : Shared) (Q : Value → Shared → Prop) (E : Value → Shared → Prop), h.StaysIn s.heap → (∀ v s', Keeps s s' → Rep (nw g s.heap s'.heap) v d → Q v s') → wpAny (model prog w) A (eval e env) Q E s
structure EvLN (prog : Program) (w : World) (A : Around) (env : Env) (g h : Heap) (es : List Expr) (ds : List D) : Prop where
  run : ∀ (pos : Pos) (s : Shared) (Q : List Value → Shared → Prop) (E : Value → Shared → Prop), h.StaysIn s.heap → (∀ vs s', Keeps s s' → RepL (nw g s.heap s'.heap) vs ds → Q vs s') → wpAny (model prog w) A (spliced (backTo pos (starEach es env))) Q E s
/-- a new list -/
structure EvFL (prog : Program) (w : World) (A : Around) (env : Env) (h : Heap) (e : Expr) (ds : List D) : Prop where
  run : ∀ (s : Shared) (Q : Value → Shared → Prop) (E : Value → Shared → Prop), h.StaysIn s.heap → (∀ a ys s', Keeps s s' → s.heap.get? a = none → s'.heap.PlainList a ys → RepL s'.heap ys.toList ds → Q (.ref a) s') → wpAny (model prog w) A (eval e env) Q E s
section
variable {prog : Program} {w : World} {A : Around} {env : Env} {g h : Heap} {e : Expr} {d : D} {ds : List D} {es : List Expr}
theorem evn_flat (x : Ev prog w A env h e d) (f : d.flat = true := by rfl) : EvN prog w A env g h e d := ⟨fun s Q E q c => x.run s Q E q fun v s' k r => c v s' k (r.anyHeap f)⟩
theorem evn_base (x : EvB prog w A env g h e d) (hg : g.StaysIn h) : EvN prog w A env g h e d := ⟨fun s Q E q c => x.run s Q E q fun v s' k _ r => c v s' k (r.stays (nw_base (stays_trans (stays_trans hg q) (keeps_stays k))))⟩
theorem EvFL.ev (x : EvFL prog w A env h e ds) : Ev prog w A env h e (.lst ds) := ⟨fun s Q E q c => x.run s Q E q fun a ys s' k n p r => c _ s' k (.lst p r)⟩
theorem EvFL.evn (x : EvFL prog w A env h e ds) (f : ∀ d ∈ ds, d.flat = true) : EvN prog w A env g h e (.lst ds) := ⟨fun s Q E q c => x.run s Q E q fun a ys s' k n p r => c _ s' k (.lst (let ⟨m, e⟩ := p; ⟨m, nw_new e n⟩) (r.anyHeap f))⟩
theorem evln_nil : EvLN prog w A env g h [] [] := ⟨fun pos s Q E q c => args_nil (c _ _ (keeps_refl s) .nil)⟩
theorem evln_cons {rest : List Expr} (x : EvN prog w A env g h e d) (r : EvLN prog w A env g h rest ds) (he : starEach (e :: rest) env = (false, eval e env) :: starEach rest env := by rfl) : EvLN prog w A env g h (e :: rest) (d :: ds) :=
  ⟨fun pos s Q E q c => args_cons (x.run s _ E q fun v s1 k1 r1 => r.run pos s1 _ E (stays_trans q (keeps_stays k1)) fun vs s2 k2 r2 => c _ _ (keeps_trans k1 k2) (.cons (r1.stays (nw_up (keeps_stays k2))) (r2.stays (nw_late (keeps_stays k1))))) he⟩
theorem evn_list {pos : Pos} (x : EvLN prog w A env g h es ds) (hz : ds.length ≤ sizeLine := by decide) : EvN prog w A env g h (.List es pos) (.lst ds) :=
  ⟨fun s Q E q c => List_ (x.run pos s _ E q fun vs s1 k1 r1 => wpAny_newObj_type (c _ _ (keeps_trans k1 (keeps_push s1 _)) (.lst (vs := vs.toArray) ⟨0, nw_new (Heap.get?_push_size _ rfl) (by
    cases e : s.heap.get? s1.heap.objs.size with
    | none => rfl
    | some o => exact absurd (Heap.lt_size (keeps_stays k1 _ _ e)) (Nat.lt_irrefl _))⟩ (r1.stays (nw_up (keeps_stays (keeps_push s1 _)))))) (by show vs.toArray.size ≤ sizeLine; rw [List.size_toArray, r1.length]; exact hz))⟩
theorem evn_tuple {n : Nat} {pos : Pos} (x : EvLN prog w A env g h es ds) (hz : ds.length ≤ sizeLine := by decide) : EvN prog w A env g h (.Tuple es n pos) (.tup ds) :=
  ⟨fun s Q E q c => Tuple_ (x.run pos s _ E q fun vs s1 k1 r1 => wpAny_newObj_type (c _ _ (keeps_trans k1 (keeps_push s1 _)) (.tup (vs := vs.toArray) ⟨_, 0, nw_new (Heap.get?_push_size _ rfl) (by
    cases e : s.heap.get? s1.heap.objs.size with
    | none => rfl
    | some o => exact absurd (Heap.lt_size (keeps_stays k1 _ _ e)) (Nat.lt_irrefl _)), rfl, rfl⟩ (r1.stays (nw_up (keeps_stays (keeps_push s1 _)))))) (by show vs.toArray.size ≤ sizeLine; rw [List.size_toArray, r1.length]; exact hz))⟩
end

/-! the base shrinks and changes -/
section
variable {env : Env} {b s : Shared} {vars : Vars} {own : Own}
theorem FS.hide2 (F : FS env b s vars own) (W : List Addr) (hW : ∀ a ∈ W, ∃ o, s.heap.get? a = some o ∧ ∀ xs n, o.data ≠ .seq xs n) : FS env { b with heap := hideAll b.heap W } s vars own := by
  have sq : SeqSub b.heap (hideAll b.heap W) := fun a o e ⟨xs, n, q⟩ => hideAll_get _ e fun hm => by
    obtain ⟨o', e', q'⟩ := hW a hm
    rw [F.keep a o e] at e'; cases e'; exact q' _ _ q
  have nn : ∀ a, b.heap.get? a = none → (hideAll b.heap W).get? a = none := fun a e => by
    cases q : (hideAll b.heap W).get? a with
    | none => rfl
    | some o => have := of_hideAll W q; rw [e] at this; cases this
  refine ⟨?_, ⟨fun a o e => F.keep a o (of_hideAll _ e), fun x f d e => ?_⟩, nn _ F.fresh, F.locs, fun hf x c e => ⟨nn _ (F.cells hf x c e).1, (F.cells hf x c e).2⟩, F.capart, fun x ds e => ?_⟩
  · obtain ⟨h, tk, e⟩ := F.same
    exact ⟨h, tk, by rw [e]⟩
  · obtain ⟨v, l, r, rb⟩ := F.vs.get x f d e
    exact ⟨v, l, r, fun q => (rb q).mono sq⟩
  · obtain ⟨a, l, fr, pl⟩ := F.own x ds e
    exact ⟨a, l, nn _ fr, pl.base sq⟩
/-- a namespace that is no one's of the frame changes -/
theorem FS.changeNs {C : Addr} {m : Str → Option Value} {h' : Heap} (F : FS env b s vars own) (hC : b.heap.get? C = none) (hn : s.heap.Ns C m) (hl : C ≠ env.locals) (ho : ∀ x od a, own = some (x, od) → Held env s.heap x a od → a ≠ C)
    (hs : Heap.SameBut C s.heap h') : FS env b { s with heap := h' } vars own := by
  obtain ⟨oC, esC, epC, hoC, hdC, _⟩ := id hn
  have sq : SeqSub s.heap h' := fun a o e ⟨xs, n, q⟩ => (hs.2 a (by rintro rfl; rw [hoC] at e; cases e; rw [hdC] at q; cases q)).trans e
  have up : ∀ a o, a ≠ C → s.heap.get? a = some o → h'.get? a = some o := fun a o ha e => (hs.2 a ha).trans e
  have look : ∀ x v, LookV env s.heap x v → LookV env h' x v := fun x v l => by
    rcases l with ⟨a, m', c, d⟩ | ⟨a, cc, c, d⟩
    · exact .inl ⟨a, m', c.sameBut hs (Ne.symm hl), d⟩
    · exact .inr ⟨a, cc, c, d.sameBut hs (isCell_ne_ns d hn)⟩
  obtain ⟨h0, tk0, e0⟩ := F.same
  refine ⟨⟨h', s.toks, by rw [e0]⟩, ⟨fun a o e => up a o (by rintro rfl; rw [hC] at e; cases e) (F.keep a o e), fun x f d e => ?_⟩, F.fresh, ?_, fun hf x c e => ?_, F.capart, fun x ds e => ?_⟩
  · obtain ⟨v, l, r, rb⟩ := F.vs.get x f d e
    exact ⟨v, look _ _ l, r.mono sq, rb⟩
  · obtain ⟨m', hm⟩ := F.locs
    exact ⟨m', hm.sameBut hs (Ne.symm hl)⟩
  · obtain ⟨a, v, q⟩ := F.cells hf x c e
    exact ⟨a, v, q.sameBut hs (isCell_ne_ns q hn)⟩
  · obtain ⟨a, l, fr, pl⟩ := F.own x ds e
    exact ⟨a, l.to fun l => look _ _ l, fr, pl.at fun o eo => up _ _ (ho _ _ _ e l) eo⟩
/-- with nothing owned, all data stand in a larger base -/
noncomputable def settled (vars : Vars) : Vars := vars.map fun p => (p.1, (true, p.2.2))
theorem settled_look {vars : Vars} {x : Str} {p : Bool × D} (e : (settled vars).lookup x = some p) : p.1 = true ∧ ∃ b, vars.lookup x = some (b, p.2) := by
  induction vars with
  | nil => cases e
  | cons q r ih =>
    obtain ⟨y, b, d⟩ := q
    unfold settled at e
    rw [List.map_cons, List.lookup_cons] at e
    rw [List.lookup_cons]
    cases hxy : x == y with
    | true => simp only [hxy] at e; cases e; exact ⟨rfl, b, rfl⟩
    | false => simp only [hxy] at e; exact ih e
theorem FS.seqRebase (F : FS env b s vars none) : ∃ g, Up b g ∧ FS env g s vars none ∧ SeqSub s.heap g.heap := by
  obtain ⟨g, ug, st, FG, all⟩ := F.rebase
  refine ⟨g, ⟨ug, st⟩, FG, fun a o e ⟨xs, n, q⟩ => all a o e fun hm => ?_⟩
  rcases hm with rfl | ⟨hf, x, hx⟩ | ⟨x, ds', h1, _⟩
  · obtain ⟨m, o', es, ep, ho', hd', _⟩ := F.locs
    rw [e] at ho'; cases ho'; rw [hd'] at q; cases q
  · obtain ⟨_, v, o', ho', hd'⟩ := F.cells hf x a hx
    rw [e] at ho'; cases ho'; rw [hd'] at q; cases q
  · cases h1
theorem FS.settle (F : FS env b s vars none) : ∃ g, Up b g ∧ FS env g s (settled vars) none := by
  obtain ⟨g, ug, FG, sq⟩ := F.seqRebase
  refine ⟨g, ug, { FG with vs := ⟨FG.vs.keep, fun x f d e => ?_⟩ }⟩
  obtain ⟨hf, b', e'⟩ := settled_look e
  obtain ⟨v, l, r, _⟩ := F.vs.get x b' d e'
  exact ⟨v, l, r, fun _ => r.mono sq⟩
end
end Mine

end
noncomputable section
open PySem PySem.Calls PySem.W PyProof.Rows
set_option maxRecDepth 100000
set_option maxHeartbeats 1000000
namespace Mine

/-! the cells that a comprehension sees -/
noncomputable def closF (cells : List (Str × Addr)) : List (Str × NameKind) → List (Str × Addr) → List (Str × Addr)
  | [], cs => cs
  | (n, k) :: r, cs => closF cells r (if (k == .free) = true then (n, (cells.lookup n).getD 0) :: cs else cs)
noncomputable def closOk (cells : List (Str × Addr)) (names : List (Str × NameKind)) : Bool := names.all fun p => !(p.2 == .free) || (cells.lookup p.1).isSome
theorem closureFor_eq {scope : Scope} {env : Env} (h : closOk env.cells scope.names = true) : closureFor scope env = pure (closF env.cells scope.names []) := by
  unfold closureFor
  dsimp only
  revert h
  generalize ([] : List (Str × Addr)) = cs
  generalize scope.names = names
  induction names generalizing cs with
  | nil => intro _; rfl
  | cons p r ih =>
    intro h
    obtain ⟨n, k⟩ := p
    have h1 : (!(k == NameKind.free) || (env.cells.lookup n).isSome) = true := by
      unfold closOk at h; rw [List.all_cons, Bool.and_eq_true] at h; exact h.1
    have h2 : closOk env.cells r = true := by
      unfold closOk at h ⊢; rw [List.all_cons, Bool.and_eq_true] at h; exact h.2
    rw [List.forIn_cons]
    cases hk : (k == NameKind.free) with
    | false =>
      simp only [hk, Bool.false_eq_true, if_false, closF]
      exact ih _ h2
    | true =>
      rw [hk] at h1
      simp only [Bool.not_true, Bool.false_or] at h1
      obtain ⟨a, ha⟩ := Option.isSome_iff_exists.mp h1
      simp only [hk, if_true, closF, cellOf, ha, Option.getD_some]
      exact ih _ h2
theorem closF_look {cells : List (Str × Addr)} {x : Str} {v : Addr} (hv : cells.lookup x = some v) : ∀ {names : List (Str × NameKind)} {cs : List (Str × Addr)}, ((x, NameKind.free) ∈ names ∨ cs.lookup x = some v) → (cs.lookup x = none ∨ cs.lookup x = some v) → (closF cells names cs).lookup x = some v
  | [], cs, h, _ => by
    rcases h with h | h
    · cases h
    · exact h
  | (n, k) :: r, cs, h, hc => by
    rw [closF]
    by_cases hk : (k == NameKind.free) = true
    · rw [if_pos hk]
      by_cases hn : x = n
      · subst hn
        have : ((x, (cells.lookup x).getD 0) :: cs).lookup x = some v := by simp [List.lookup, hv]
        exact closF_look hv (.inr this) (.inr this)
      · have hne : (x == n) = false := by simpa using hn
        have hl : ((n, (cells.lookup n).getD 0) :: cs).lookup x = cs.lookup x := by rw [List.lookup_cons, hne]
        refine closF_look hv ?_ (by rw [hl]; exact hc)
        rw [hl]
        rcases h with h | h
        · rcases List.mem_cons.mp h with h | h
          · cases h; exact absurd rfl hn
          · exact .inl h
        · exact .inr h
    · rw [if_neg hk]
      refine closF_look hv ?_ hc
      rcases h with h | h
      · rcases List.mem_cons.mp h with h | h
        · cases h; exact absurd rfl hk
        · exact .inl h
      · exact .inr h
/-- the comprehension's own environment -/
noncomputable abbrev cEnv (scope : Scope) (C : Addr) (env : Env) : Env := compEnvC scope (closF env.cells scope.names []) C env
/-- the outer names that it sees -/
noncomputable def cVars (env : Env) (scope : Scope) (vars : Vars) : Vars := keepC vars (scope.names)
where keepC (vars : Vars) : List (Str × NameKind) → Vars
  | [] => []
  | (n, k) :: r => if (k == .free && scope.names.lookup n == some .free && (env.cells.lookup n).isSome && (env.kindOf n == some .cell || env.kindOf n == some .free)) = true then
      match vars.lookup n with
      | some p => (n, (true, p.2)) :: keepC vars r
      | none => keepC vars r
    else keepC vars r
theorem cVars_look {env : Env} {scope : Scope} {vars : Vars} {x : Str} {p : Bool × D} (e : (cVars env scope vars).lookup x = some p) :
    scope.names.lookup x = some .free ∧ (closF env.cells scope.names []).lookup x = env.cells.lookup x ∧ (env.kindOf x = some .cell ∨ env.kindOf x = some .free) ∧ ∃ b, vars.lookup x = some (b, p.2) := by
  unfold cVars at e
  revert e
  generalize hl : scope.names = l
  have : ∀ l', (cVars.keepC env scope vars l').lookup x = some p → scope.names.lookup x = some .free ∧ (closF env.cells scope.names []).lookup x = env.cells.lookup x ∧ (env.kindOf x = some .cell ∨ env.kindOf x = some .free) ∧ ∃ b, vars.lookup x = some (b, p.2) := by
    intro l'
    induction l' with
    | nil => intro e; cases e
    | cons q r ih =>
      obtain ⟨n, k⟩ := q
      intro e
      rw [cVars.keepC] at e
      split at e
      · rename_i hc
        simp only [Bool.and_eq_true, Bool.or_eq_true, beq_iff_eq] at hc
        split at e
        · rename_i p' hp
          rw [List.lookup_cons] at e
          cases hxn : x == n with
          | true =>
            rw [hxn] at e; cases e
            have := beq_iff_eq.mp hxn; subst this
            obtain ⟨v, hv⟩ := Option.isSome_iff_exists.mp hc.1.2
            exact ⟨hc.1.1.2, (closF_look hv (.inl (mem_of_lookup hc.1.1.2)) (.inl rfl)).trans hv.symm, hc.2, p'.1, hp⟩
          | false => rw [hxn] at e; exact ih e
        · exact ih e
      · exact ih e
  intro e
  have h := this l e
  rw [hl] at h
  exact h
theorem relabel_free {env : Env} : ∀ {names : List (Str × NameKind)} {x : Str}, names.lookup x = some .free →
    (names.map fun (n, k) => if (k == NameKind.free && env.scope.kind == .function && env.kindOf n == some .cell) then (n, NameKind.cell) else (n, k)).lookup x = some .cell ∨
    (names.map fun (n, k) => if (k == NameKind.free && env.scope.kind == .function && env.kindOf n == some .cell) then (n, NameKind.cell) else (n, k)).lookup x = some .free
  | [], _, h => by simp at h
  | (n, k) :: r, x, h => by
    have ih := @relabel_free env r x
    show List.lookup x ((if (k == NameKind.free && env.scope.kind == .function && env.kindOf n == some .cell) = true then (n, NameKind.cell) else (n, k)) :: _) = _ ∨ List.lookup x ((if (k == NameKind.free && env.scope.kind == .function && env.kindOf n == some .cell) = true then (n, NameKind.cell) else (n, k)) :: _) = _
    cases hx : x == n with
    | true =>
      simp only [List.lookup_cons, hx] at h
      cases h
      split
      · left; simp [List.lookup_cons, hx]
      · right; simp [List.lookup_cons, hx]
    | false =>
      simp only [List.lookup_cons, hx] at h
      split
      · simp only [List.lookup_cons, hx]; exact ih h
      · simp only [List.lookup_cons, hx]; exact ih h
theorem cLook {env : Env} {scope : Scope} {C : Addr} {vars : Vars} {h h' : Heap} {x : Str} {p : Bool × D} {v : Value} (e : (cVars env scope vars).lookup x = some p) (l : LookV env h x v) (k : h.StaysIn h') : LookV (cEnv scope C env) h' x v := by
  obtain ⟨h1, h2, h3, _⟩ := cVars_look e
  rcases l with ⟨a, _⟩ | ⟨a, cc, c, d⟩
  · rcases h3 with h3 | h3 <;> · rw [a] at h3; cases h3
  · refine .inr ⟨?_, cc, ?_, d.keeps k⟩
    · exact relabel_free h1
    · show (closF env.cells scope.names []).lookup x = some cc
      rw [h2]; exact c
/-! tests -/
structure Ts (prog : Program) (w : World) (A : Around) (env : Env) (h : Heap) (ifs : List Expr) (b : Bool) : Prop where
  run : ∀ (s : Shared) (Q : Bool → Shared → Prop) (E : Value → Shared → Prop), h.StaysIn s.heap → (∀ s', Keeps s s' → Q b s') →
    wpAny (model prog w) A (forIn ifs true fun c r => if r = true then do let ok ← isTrue c env (eval c env); pure (ForInStep.yield ok) else pure (ForInStep.yield r)) Q E s
section
variable {prog : Program} {w : World} {A : Around} {env : Env} {h : Heap}
theorem ts_nil : Ts prog w A env h [] true := ⟨fun s Q E q c => wpAny_tests_nil (c s (keeps_refl s))⟩
theorem ts_one {t : Expr} {b : Bool} (x : Tr prog w A env h t b) : Ts prog w A env h [t] b := ⟨fun s Q E q c => wpAny_tests_one (x.run s _ E q fun s' k => c s' k)⟩
end

section
variable {prog : Program} {w : World} {A : Around} {env : Env} {s₀ s : Shared} {vars : Vars} {own : Own}
/-- what a comprehension adds to -/
theorem emit_one {cenv : Env} {b s : Shared} {vars : Vars} {a0 : Addr} {outs : List D} {elt : Expr} {d : D} {E : Value → Shared → Prop} {P : Value → Shared → Prop} (F : FS cenv b s vars (some ("", .acc a0 outs))) (x : EvN prog w A cenv b.heap s.heap elt d) (hz : outs.length ≤ sizeLine)
    (c : ∀ g s', Up b g → FS cenv g s' (stab vars) (some ("", .acc a0 (outs ++ [d]))) → P .none s') :
    wpAny (model prog w) A (eval elt cenv) (fun v s' => wpAny (model prog w) A (call (.builtin "list.append") [.ref a0, v]) P E s') E s := by
  refine x.run s _ E (stays_refl _) fun v s1 k1 r1 => ?_
  have F1 := F.step k1
  obtain ⟨g, ug, stg, FG, all⟩ := F1.rebase
  obtain ⟨a, hl, fr, ys, pl, ry⟩ := FG.own "" _ rfl
  have haa : a = a0 := hl
  subst haa
  obtain ⟨a', hl', fr', ys', pl', ry'⟩ := F.own "" _ rfl
  have haa' : a' = a := hl'
  subst haa'
  have rv : Rep g.heap v d := by
    refine r1.mono fun c o e q => all c o (nw_in c o e) fun hm => ?_
    rcases hm with rfl | ⟨hf, x, hx⟩ | ⟨x, od, h1, h2, h3, h4⟩
    · obtain ⟨m, o', es, ep, ho', hd', _⟩ := F1.locs
      obtain ⟨xs, n, q⟩ := q
      rw [nw_in _ _ e] at ho'; cases ho'; rw [hd'] at q; cases q
    · obtain ⟨_, v', o', ho', hd'⟩ := F1.cells hf x c hx
      obtain ⟨xs, n, q⟩ := q
      rw [nw_in _ _ e] at ho'; cases ho'; rw [hd'] at q; cases q
    · cases h1
      have hca : c = a' := h2
      subst hca
      obtain ⟨n, pn⟩ := pl'
      obtain ⟨o2, e2⟩ := nw_not e ⟨_, pn⟩
      rw [fr'] at e2; cases e2
  refine wpAny_list_append_plain pl (fun h' pl2 hs2 => ?_) (by rw [size_of_repL ry]; exact hz)
  refine c g _ ⟨ug, stg⟩ ?_
  -- the own list changes
  have hne : ∀ m b, s1.heap.Ns b m → b ≠ a' := fun m b hn => Ne.symm (plainList_ne_ns pl hn)
  have hnc : ∀ v c, s1.heap.IsCell c v → c ≠ a' := fun v c hn => Ne.symm (plainList_ne_cell pl hn)
  have look : ∀ y v, LookV cenv s1.heap y v → LookV cenv h' y v := fun y v l => by
    rcases l with ⟨a1, m, c, d⟩ | ⟨a1, cc, c, d⟩
    · exact .inl ⟨a1, m, c.sameBut hs2 (hne _ _ c), d⟩
    · exact .inr ⟨a1, cc, c, d.sameBut hs2 (hnc _ _ d)⟩
  have keep : g.heap.StaysIn h' := fun b o e => (hs2.2 b (by rintro rfl; rw [fr] at e; cases e)).trans (FG.keep b o e)
  obtain ⟨h0, t0, e0⟩ := FG.same
  refine ⟨⟨h', s1.toks, by rw [e0]⟩, ⟨keep, fun y f d' e => ?_⟩, FG.fresh, ?_, fun hf y c e => ?_, FG.capart, fun y es e => ?_⟩
  · obtain ⟨hf, e'⟩ := keepS_look e
    simp only at hf
    subst hf
    obtain ⟨v', lv, _, rb⟩ := FG.vs.get y true d' e'
    exact ⟨v', look _ _ lv, (rb rfl).stays keep, rb⟩
  · obtain ⟨m, hm⟩ := FG.locs
    exact ⟨m, hm.sameBut hs2 (hne _ _ hm)⟩
  · obtain ⟨a1, v', q⟩ := FG.cells hf y c e
    exact ⟨a1, v', q.sameBut hs2 (hnc _ _ q)⟩
  · cases e
    refine ⟨a', rfl, fr, _, pl2, ?_⟩
    rw [Array.toList_push]
    exact RepL.append (.one rv) ry

/-- a comprehension begins: its frame -/
theorem comp_frame {scope : Scope} {s1 : Shared} {E : Value → Shared → Prop} {P : Value → Env → Shared → Prop} {wr fp : List Addr} {g h₀ : Heap} (V : VS env h₀ s1.heap vars) (hgs : SeqSub g s1.heap)
    (hwF : ∀ a ∈ wr, ∃ o vs, s1.heap.get? a = some o ∧ o.data = .fields vs) (hfp : ∀ b ∈ fp, ∃ o, s1.heap.get? b = some o)
    (hcell : (scope.names.all fun x => decide (x.2 ≠ .cell)) = true) (hkind : scope.kind = .function)
    (c : ∀ a0 C b0 h1, s1.heap.get? a0 = none → s1.heap.get? C = none → (∃ h, b0 = { s1 with heap := h }) → (∀ a o, a ∉ wr → s1.heap.get? a = some o → b0.heap.get? a = some o) → LB g fp wr b0 → s1.heap.StaysIn h1 →
      FS (cEnv scope C env) b0 { s1 with heap := h1 } (cVars env scope vars) (some ("", .acc a0 [])) → P (.ref a0) (cEnv scope C env) { s1 with heap := h1 }) :
    wpAny (model prog w) A (newList []) (fun acc s₃ => wpAny (model prog w) A (newFunctionEnv scope env.globals (closF env.cells scope.names []) [] env.qual none .none (some env)) (fun cenv s₄ => P acc { cenv with scope := relabel scope env } s₄) E s₃) E s1 := by
  refine wpAny_newObj_type (wpAny_newFunctionEnv (fun x hx => of_decide_eq_true (List.all_eq_true.mp hcell x hx)) (by intro y hy; simp at hy) (fun h₁ hns₁ hsb₁ => ?_) hkind)
  dsimp only at hns₁ hsb₁ ⊢
  generalize hH2 : s1.heap.push { cls := .type "list", dict := none, data := .seq ([] : List Value).toArray } = H2 at hns₁ hsb₁ ⊢
  have hC : H2.objs.size = s1.heap.objs.size + 1 := by rw [← hH2, Heap.size_push]
  have below : ∀ b, b < s1.heap.objs.size → b ≠ H2.objs.size ∧ b ≠ s1.heap.objs.size := fun b hb => ⟨by rw [hC]; exact Nat.ne_of_lt (Nat.lt_succ_of_lt hb), Nat.ne_of_lt hb⟩
  have old : ∀ b o, s1.heap.get? b = some o → h₁.get? b = some o := fun b o e => hsb₁.extBut b o (below b (Heap.lt_size e)).1 (Heap.get?_push_of_some _ (hH2 ▸ Heap.get?_push_of_some _ e))
  have hDC : s1.heap.objs.size ≠ H2.objs.size := by rw [hC]; exact Nat.ne_of_lt (Nat.lt_succ_self _)
  have hacc : h₁.PlainList s1.heap.objs.size #[] := ⟨_, hsb₁.extBut _ _ hDC (Heap.get?_push_of_some _ (hH2 ▸ Heap.get?_push_size _ rfl))⟩
  have fresh : ∀ a, s1.heap.objs.size ≤ a → s1.heap.get? a = none := fun a ha => by
    cases e : s1.heap.get? a with
    | none => rfl
    | some o' => exact absurd (Heap.lt_size e) (Nat.not_lt.mpr ha)
  have hCn : s1.heap.get? H2.objs.size = none := fresh _ (by rw [hC]; exact Nat.le_succ _)
  have hAn : s1.heap.get? s1.heap.objs.size = none := fresh _ (Nat.le_refl _)
  have hid : ∀ a o, a ∉ wr → s1.heap.get? a = some o → (hideAll s1.heap wr).get? a = some o := fun a o hn e => hideAll_get _ e hn
  have nn : ∀ a, s1.heap.get? a = none → (hideAll s1.heap wr).get? a = none := fun a e => by
    cases q : (hideAll s1.heap wr).get? a with
    | none => rfl
    | some o => have := of_hideAll wr q; rw [e] at this; cases this
  have sq : SeqSub s1.heap (hideAll s1.heap wr) := fun a o e ⟨xs, n, q⟩ => hid a o (fun hm => by
    obtain ⟨o', vs, e', q'⟩ := hwF a hm
    rw [e] at e'; cases e'; rw [q] at q'; cases q') e
  refine c s1.heap.objs.size H2.objs.size { s1 with heap := hideAll s1.heap wr } h₁ hAn hCn ⟨_, rfl⟩ hid ⟨hgs.trans sq, fun a ha => hideAll_none _ ha, fun a ha hna => ?_⟩ old
    ⟨⟨h₁, s1.toks, rfl⟩, ⟨fun a o e => old a o (of_hideAll _ e), fun x f d e => ?_⟩, nn _ hCn, ⟨_, hns₁⟩, fun hf => (by cases hf), fun hf => (by cases hf), fun x od e => ?_⟩
  · obtain ⟨o, e⟩ := hfp a ha
    exact ⟨o, hid a o hna e⟩
  · obtain ⟨_, _, _, b', e'⟩ := cVars_look e
    obtain ⟨v, l, r, _⟩ := V.get x b' d e'
    exact ⟨v, cLook e l old, r.stays old, fun _ => r.mono sq⟩
  · cases e
    exact ⟨_, rfl, nn _ hAn, #[], hacc, .nil⟩
end
end Mine

end
noncomputable section
open PySem PySem.Calls PySem.W PyProof.Rows
set_option maxRecDepth 100000
set_option maxHeartbeats 1000000
namespace Mine
section
variable {prog : Program} {w : World} {A : Around} {env : Env} {s₀ s : Shared} {vars : Vars} {own : Own}

/-- the loop of a comprehension at some depth -/
theorem comp_loop {cenv : Env} {R : Result → Shared → Prop} {elt : Expr} {gens : List Comprehension} {scope : Scope} {pos : Pos} {k : Nat} {acc : Value} {p : Pos} {T : Sem Unit} {target : Expr} {g : Heap} {I : Addr} {fp wr : List Addr} {St : Nat → Heap → Prop} {Mid : Nat → Value → Heap → Prop} {ds : List D} {okT : Expr → Prop} {sf fl : Bool} {b0 : Shared} {J : Nat → Vars → Own → Prop} {bs : D → List (Str × D)}
    (heq : compTurn (.ListComp elt gens scope pos) k (.ref I) acc cenv = (standAt p >>= fun _ => pyNext (.ref I) >>= fun r => match r with
      | none => pure (.done .next)
      | some v => letOwnedTupleGo target (.ref I) v >>= fun _ => assign target cenv v >>= fun _ => T >>= fun _ => again (.compLoop (.ListComp elt gens scope pos) k (.ref I) acc cenv)))
    (L : LB g fp wr b0) (W : Iter prog w A g I fp wr ds St Mid okT sf) (hh : A.handled = none) (hfl : fl = true → sf = true) (hok : okT target) (hT : ∀ d ∈ ds, Tgt target d (bs d))
    (hsto : ∀ i vars' own', J i vars' own' → ∀ d ∈ ds, ((bs d).all fun p => storable cenv p.1 && notOwn own' p.1) = true)
    (turn : ∀ i d b s' vars' own', ds[i]? = some d → Up b0 b → J i vars' own' → FS cenv b s' (flag fl (bs d) ++ vars') own' →
      wpAny (model prog w) A T (fun _ s'' => Goes cenv b (J (i + 1)) s'') (notedBy (model prog w) A cenv fun e s' => R (.error e) s') s')
    (done : ∀ b s' vars' own', Up b0 b → J ds.length vars' own' → FS cenv b s' vars' own' → R (.ok .next) s')
    (start : LI cenv wr St ds.length b0 J 0 s) :
    codeAny (model prog w) A (.compLoop (.ListComp elt gens scope pos) k (.ref I) acc cenv) R s := by
  refine codeAny_loop rfl (fun n s' => ∃ i, LI cenv wr St ds.length b0 J i s' ∧ n = ds.length - i) (fun n s' hI => ?_) ds.length ⟨0, start, rfl⟩
  obtain ⟨i, hI, rfl⟩ := hI
  show wpAny _ A ((compTurn (.ListComp elt gens scope pos) k (.ref I) acc cenv).onRaise (fun x => do noteFrame x cenv; theTreesLotGoes x)) _ _ s'
  refine wpAny_noted ?_
  rw [heq]
  refine wpAny_bind (wpAny_standAt (wpAny_bind ?_))
  by_cases hlt : i < ds.length
  · refine loop_turn (Qa := fun _ s4 => wpAny (model prog w) A (T >>= fun _ => again (.compLoop (.ListComp elt gens scope pos) k (.ref I) acc cenv)) _ (notedBy (model prog w) A cenv fun e s' => R (.error e) s') s4) L W hh hfl hok hT hsto hI hlt (fun v s1 h => wpAny_bind (wpAny_mono h (fun _ s2 h2 => wpAny_bind h2) fun _ _ x => x)) fun b s4 vars' own' d hd ub hJ F4 go => ?_
    refine wpAny_bind (wpAny_mono (turn i d b s4 vars' own' hd ub hJ F4) (fun _ s5 hg => ?_) fun _ _ x => x)
    exact wpAny_pure ⟨rfl, _, Nat.sub_lt_sub_left hlt (Nat.lt_succ_self i), i + 1, go s5 hg, rfl⟩
  · exact loop_done W hI hlt fun b s4 vars' own' ub hJ F4 => wpAny_pure (done b s4 vars' own' ub hJ F4)

theorem compTurn_one (elt target iter : Expr) (ifs : List Expr) (scope : Scope) (pos : Pos) (it acc : Value) (env : Env) :
    compTurn (.ListComp elt [⟨target, iter, ifs, 0⟩] scope pos) 0 it acc env = (standAt iter.pos >>= fun _ => pyNext it >>= fun r => match r with
      | none => pure (.done .next)
      | some v => letOwnedTupleGo target it v >>= fun _ => assign target env v >>= fun _ =>
        ((forIn ifs true fun c r => if r = true then do let ok ← isTrue c env (eval c env); pure (ForInStep.yield ok) else pure (ForInStep.yield r)) >>= fun ok => if ok = true then (eval elt env >>= fun x => call (.builtin "list.append") [acc, x] >>= fun _ => pure ()) else pure ()) >>= fun _ =>
          again (.compLoop (.ListComp elt [⟨target, iter, ifs, 0⟩] scope pos) 0 it acc env)) := by
  rw [compTurn_list]
  refine congrArg (standAt iter.pos >>= ·) (funext fun _ => congrArg (pyNext it >>= ·) (funext fun r => ?_))
  cases r with
  | none => rfl
  | some v =>
    refine congrArg (letOwnedTupleGo target it v >>= ·) (funext fun _ => congrArg (assign target env v >>= ·) (funext fun _ => ?_))
    rw [bind_assoc]
    refine congrArg (forIn ifs true (fun c r => if r = true then do let ok ← isTrue c env (eval c env); pure (ForInStep.yield ok) else pure (ForInStep.yield r)) >>= ·) (funext fun ok => ?_)
    cases ok <;> rfl

/-- the turn's end of a comprehension of one clause -/
theorem emit_turn {cenv : Env} {b s : Shared} {vars : Vars} {a0 : Addr} {outs : List D} {ifs : List Expr} {elt : Expr} {r : Option D} {E : Value → Shared → Prop} {P : Unit → Shared → Prop} (F : FS cenv b s vars (some ("", .acc a0 outs))) (hz : outs.length ≤ sizeLine)
    (ts : Ts prog w A cenv s.heap ifs r.isSome) (x : ∀ d s', r = some d → FS cenv b s' vars (some ("", .acc a0 outs)) → EvN prog w A cenv b.heap s'.heap elt d)
    (c : ∀ g s', Up b g → FS cenv g s' (stab vars) (some ("", .acc a0 (outs ++ r.toList))) → P () s') (c0 : ∀ s', r = none → FS cenv b s' vars (some ("", .acc a0 outs)) → P () s') :
    wpAny (model prog w) A ((forIn ifs true fun c r => if r = true then do let ok ← isTrue c cenv (eval c cenv); pure (ForInStep.yield ok) else pure (ForInStep.yield r)) >>= fun ok => if ok = true then (eval elt cenv >>= fun x => call (.builtin "list.append") [.ref a0, x] >>= fun _ => pure ()) else pure ()) P E s := by
  refine wpAny_bind (ts.run s _ E (stays_refl _) fun s' k => ?_)
  cases r with
  | none => exact wpAny_pure (c0 s' rfl (F.step k))
  | some d =>
    rw [Option.isSome_some, if_pos rfl]
    exact wpAny_bind (wpAny_mono (emit_one (P := fun _ s' => P () s') (F.step k) (x d s' rfl (F.step k)) hz fun g s'' ug F' => c g s'' ug F') (fun v s2 h2 => wpAny_bind (wpAny_mono h2 (fun _ _ h3 => wpAny_pure h3) fun _ _ x => x)) fun _ _ x => x)
end
end Mine

end
noncomputable section
open PySem PySem.Calls PySem.W PyProof.Rows
set_option maxRecDepth 100000
set_option maxHeartbeats 1000000
namespace Mine
theorem flag_stab {fl : Bool} {bs : List (Str × D)} {cv : Vars} {x : Str} {p : Bool × D} (hcv : ∀ y q, cv.lookup y = some q → q.1 = true ∧ bs.lookup y = none) (e : cv.lookup x = some p) : (stab (flag fl bs ++ cv)).lookup x = some p := by
  obtain ⟨h1, h2⟩ := hcv x p e
  have hl : (flag fl bs ++ cv).lookup x = some p := by
    have hn : ∀ l : List (Str × D), l.lookup x = none → (flag fl l).lookup x = none := by
      intro l
      induction l with
      | nil => intro _; rfl
      | cons q r ih =>
        obtain ⟨y, d⟩ := q
        intro h
        rw [List.lookup_cons] at h
        unfold flag
        rw [List.map_cons, List.lookup_cons]
        cases hxy : x == y with
        | true => rw [hxy] at h; cases h
        | false => rw [hxy] at h; exact ih h
    have happ : ∀ (l m : Vars), l.lookup x = none → (l ++ m).lookup x = m.lookup x := by
      intro l m
      induction l with
      | nil => intro _; rfl
      | cons q r ih =>
        obtain ⟨y, d⟩ := q
        intro h
        rw [List.lookup_cons] at h
        rw [List.cons_append, List.lookup_cons]
        cases hxy : x == y with
        | true => rw [hxy] at h; cases h
        | false => rw [hxy] at h; exact ih h
    rw [happ _ _ (hn _ h2)]; exact e
  -- keepS finds it
  have : ∀ (vars : Vars) (ns : List Str), vars.lookup x = some p → p.1 = true → x ∈ ns → (keepS vars ns).lookup x = some p := by
    intro vars ns hv hp
    induction ns with
    | nil => intro h; cases h
    | cons y r ih =>
      intro hm
      unfold keepS
      by_cases hxy : x = y
      · subst hxy
        obtain ⟨pb, pd⟩ := p
        simp only at hp; subst hp
        rw [hv]
        simp only
        rw [List.lookup_cons, beq_self_eq_true]
      · have hm' : x ∈ r := by
          rcases List.mem_cons.mp hm with h | h
          · exact absurd h hxy
          · exact h
        split
        · rw [List.lookup_cons]
          have : (x == y) = false := by simpa using hxy
          rw [this]; exact ih hm'
        · exact ih hm'
  refine this _ _ hl h1 ?_
  have hmem : ∀ (vars : Vars), vars.lookup x = some p → x ∈ vars.map (·.1) := by
    intro vars hv
    exact List.mem_map.mpr ⟨_, mem_of_lookup hv, rfl⟩
  exact hmem _ hl

section
variable {prog : Program} {w : World} {A : Around} {env : Env} {s₀ s : Shared} {vars : Vars} {own : Own}

theorem cVars_true {scope : Scope} {y : Str} {q : Bool × D} (e : (cVars env scope vars).lookup y = some q) : q.1 = true := by
  unfold cVars at e
  revert e
  have : ∀ l', (cVars.keepC env scope vars l').lookup y = some q → q.1 = true := by
    intro l'
    induction l' with
    | nil => intro e; cases e
    | cons p r ih =>
      obtain ⟨n, k⟩ := p
      intro e
      rw [cVars.keepC] at e
      split at e
      · split at e
        · rw [List.lookup_cons] at e
          cases hxn : y == n with
          | true => rw [hxn] at e; cases e; rfl
          | false => rw [hxn] at e; exact ih e
        · exact ih e
      · exact ih e
  exact this _

theorem lookup_none_of {scope : Scope} {l : List (Str × D)} (h : ∀ p ∈ l, scope.names.lookup p.1 = some .local) {y : Str} (hy : scope.names.lookup y = some .free) : l.lookup y = none := by
  induction l with
  | nil => rfl
  | cons p r ih =>
    obtain ⟨n, d⟩ := p
    rw [List.lookup_cons]
    cases hyn : y == n with
    | true =>
      have := h _ (.head _)
      rw [← beq_iff_eq.mp hyn, hy] at this; cases this
    | false => exact ih fun p hp => h p (.tail _ hp)
theorem storable_local {scope : Scope} {C : Addr} (hk : scope.kind = .function) {x : Str} (h : scope.names.lookup x = some .local) : storable (cEnv scope C env) x = true := by
  unfold storable
  have : (cEnv scope C env).kindOf x = some .local := lookup_relabel_local h
  have hk' : (cEnv scope C env).scope.kind = .function := hk
  rw [this, hk']
  rfl

/-- a comprehension of one clause, from its iterator on -/
theorem comp_core {elt target iter : Expr} {ifs : List Expr} {scope : Scope} {pos : Pos} {s1 : Shared} {g h h₀ : Heap} {I : Addr} {fp wr : List Addr} {St : Nat → Heap → Prop} {Mid : Nat → Value → Heap → Prop} {ds : List D} {okT : Expr → Prop} {sf fl : Bool}
    {E : Value → Shared → Prop} {RR : Value → Addr → Result → Shared → Prop} (bs : D → List (Str × D)) (f : D → Option D)
    (V : VS env h₀ h vars) (q : h.StaysIn s.heap) (k1 : Keeps s s1) (W : Iter prog w A g I fp wr ds St Mid okT sf) (st0 : St 0 s1.heap) (hg : SeqSub g s1.heap)
    (hfp : ∀ b ∈ fp, ∃ o, s1.heap.get? b = some o) (hwr : ∀ b ∈ wr, s.heap.get? b = none)
    (hh : A.handled = none) (hfl : fl = true → sf = true) (hok : okT target) (hT : ∀ d ∈ ds, Tgt target d (bs d)) (hloc : ∀ d ∈ ds, ∀ p ∈ bs d, scope.names.lookup p.1 = some .local) (hz : ds.length ≤ sizeLine)
    (hcell : (scope.names.all fun x => decide (x.2 ≠ .cell)) = true) (hkind : scope.kind = .function) (hempty : scope.names.lookup ("" : Str) = none)
    (each : ∀ C a0 b s' outs d, d ∈ ds → h.StaysIn b.heap → FS (cEnv scope C env) b s' (flag fl (bs d) ++ cVars env scope vars) (some (("" : Str), OD.acc a0 outs)) →
      Ts prog w A (cEnv scope C env) s'.heap ifs (f d).isSome ∧ ∀ d', f d = some d' → EvN prog w A (cEnv scope C env) b.heap s'.heap elt d')
    (hRR : ∀ a0 C b s4, s.heap.get? a0 = none → s.heap.get? C = none → a0 ≠ C → Keeps s s4 → s.heap.StaysIn b.heap → FS (cEnv scope C env) b s4 (cVars env scope vars) (some (("" : Str), OD.acc a0 (ds.filterMap f))) → RR (.ref a0) C (.ok .next) s4) :
    wpAny (model prog w) A (newList []) (fun acc s₃ => wpAny (model prog w) A (newFunctionEnv scope env.globals (closF env.cells scope.names []) [] env.qual none .none (some env)) (fun cenv s₄ =>
      codeAny (model prog w) A (.compStart (.ListComp elt [⟨target, iter, ifs, 0⟩] scope pos) 0 (.ref I) acc { cenv with scope := relabel scope env }) (RR acc cenv.locals) s₄) E s₃) E s1 := by
  have nw0 : ∀ a, s1.heap.get? a = none → s.heap.get? a = none := fun a e => by
    cases q : s.heap.get? a with
    | none => rfl
    | some o => have := keeps_stays k1 a o q; rw [e] at this; cases this
  refine comp_frame (P := fun acc cenv s₄ => codeAny (model prog w) A (.compStart (.ListComp elt [⟨target, iter, ifs, 0⟩] scope pos) 0 (.ref I) acc cenv) (RR acc cenv.locals) s₄) (V.stays (stays_trans q (keeps_stays k1))) hg (W.wrF _ _ st0) hfp hcell hkind
    fun a0 C b0 h1 ha0 hC ⟨hb0, eb0⟩ hsub L hs1 F0 => ?_
  have hsb : s.heap.StaysIn b0.heap := fun a o e => hsub a o (fun hm => by rw [hwr a hm] at e; cases e) (keeps_stays k1 a o e)
  have loop : ∀ s₃ : Shared, s₃ = { s1 with heap := h1 } → codeAny (model prog w) A (.compLoop (.ListComp elt [⟨target, iter, ifs, 0⟩] scope pos) 0 (.ref I) (.ref a0) (cEnv scope C env)) (RR (.ref a0) C) s₃ := by
    rintro s₃ rfl
    refine comp_loop (b0 := b0) (fl := fl) (bs := bs) (J := fun i vars' own' => vars' = cVars env scope vars ∧ own' = some (("" : Str), OD.acc a0 ((ds.take i).filterMap f))) (compTurn_one elt target iter ifs scope pos _ _ _) L W hh hfl hok hT ?_ ?_ ?_
      ⟨b0, _, _, .refl _, L.wb, ⟨rfl, rfl⟩, F0, W.frame _ _ _ st0 fun a _ o e => hs1 a o e, Nat.zero_le _⟩
    · rintro i vars' own' ⟨rfl, rfl⟩ d hd
      refine List.all_eq_true.mpr fun p hp => ?_
      rw [storable_local hkind (hloc d hd p hp), Bool.true_and]
      show (!(("" : Str) == p.1)) = true
      have : (("" : Str) == p.1) = false := by
        cases hq : (("" : Str) == p.1) with
        | false => rfl
        | true => exact absurd (hloc d hd p hp) (by
            rw [← beq_iff_eq.mp hq]
            rw [hempty]; simp)
      rw [this]; rfl
    · rintro i d b s' vars' own' hd ub ⟨rfl, rfl⟩ F
      have hmem : d ∈ ds := List.mem_of_getElem? hd
      have hbs : h.StaysIn b.heap := stays_trans q (stays_trans hsb ub.2)
      have hlen : ((ds.take i).filterMap f).length ≤ sizeLine := Nat.le_trans (List.length_filterMap_le _ _) (Nat.le_trans (by simp; omega) hz)
      have htake : (ds.take (i + 1)).filterMap f = (ds.take i).filterMap f ++ (f d).toList := by
        rw [List.take_add_one, hd, Option.toList_some, List.filterMap_append]
        cases hfd : f d <;> simp [hfd]
      refine emit_turn (r := f d) F hlen (each C a0 b s' _ d hmem hbs F).1 (fun d' s'' e F' => (each C a0 b s'' _ d hmem hbs F').2 d' e) (fun g' s'' ug F' => ?_) fun s'' e F' => ?_
      · refine ⟨g', _, _, ug, ⟨rfl, rfl⟩, ?_⟩
        rw [htake]
        refine F'.weaken fun x p e => flag_stab (fun y q hq => ⟨cVars_true hq, lookup_none_of (hloc d hmem) (cVars_look hq).1⟩) e
      · refine ⟨b, _, _, .refl _, ⟨rfl, rfl⟩, ?_⟩
        rw [htake, e, Option.toList_none, List.append_nil]
        refine F'.weaken fun x p e => ?_
        have := flag_stab (fl := fl) (bs := bs d) (fun y q hq => ⟨cVars_true hq, lookup_none_of (hloc d hmem) (cVars_look hq).1⟩) e
        exact (keepS_look this).2
    · rintro b s' vars' own' ub ⟨rfl, rfl⟩ F
      rw [List.take_length] at F
      have hkeep : s.heap.StaysIn b.heap := stays_trans hsb ub.2
      obtain ⟨h2, e2⟩ := ub.1
      obtain ⟨h3, t3, e3⟩ := F.same
      obtain ⟨h4, t4, e4, _⟩ := id k1
      have hks : Keeps s s' := ⟨h3, t3, by rw [e3, e2, eb0, e4], by have := stays_trans hkeep F.keep; rw [e3] at this; exact this⟩
      refine hRR a0 C b s' (nw0 _ ha0) (nw0 _ hC) ?_ hks hkeep F
      · rintro rfl
        obtain ⟨a', hl', fr', ys', pl', ry'⟩ := F.own "" _ rfl
        obtain ⟨m, hm⟩ := F.locs
        exact plainList_ne_ns pl' hm hl'
  exact codeAny_compStart_list (loop _ rfl) (W.self 0 _ _ _ (W.frame _ _ _ st0 fun a _ o e => hs1 a o e) (loop _ rfl))
end
end Mine

end
noncomputable section
open PySem PySem.Calls PySem.W PyProof.Rows
set_option maxRecDepth 100000
set_option maxHeartbeats 1000000
namespace Mine
/-- a source for a comprehension -/
structure SrC (prog : Program) (w : World) (A : Around) (env : Env) (h : Heap) (e : Expr) (ds : List D) (okT : Expr → Prop) (sf : Bool) : Prop where
  run : ∀ (s : Shared) (Q : Value → Shared → Prop) (E : Value → Shared → Prop), h.StaysIn s.heap →
    (∀ I s' g fp wr St Mid, Keeps s s' → Iter prog w A g I fp wr ds St Mid okT sf → St 0 s'.heap → SeqSub g s'.heap → (∀ b ∈ fp, ∃ o, s'.heap.get? b = some o) → (∀ b ∈ wr, s.heap.get? b = none) → Q (.ref I) s') →
    wpAny (model prog w) A (eval e env) (fun x s₁ => wpAny (model prog w) A (pyIter x) Q E s₁) E s
theorem Sr.c {prog : Program} {w : World} {A : Around} {env : Env} {h : Heap} {st : Option Heap} {e : Expr} {ds : List D} {okT : Expr → Prop} {sf : Bool} (x : Sr prog w A env h st e ds okT sf) : SrC prog w A env h e ds okT sf :=
  ⟨fun s Q E q c => x.run s Q E q fun I s1 g fp wr St Mid k1 W st0 hg hsz hfp hwr hgst => c I s1 g fp wr St Mid k1 W st0 hg (fun b hb => let ⟨o, e, _⟩ := hfp b hb; ⟨o, e⟩) hwr⟩
theorem flat_all {ds : List D} (h : ds.all D.flat = true) : ∀ d ∈ ds, d.flat = true := fun d hd => List.all_eq_true.mp h d hd
section
variable {prog : Program} {w : World} {A : Around} {env : Env} {s₀ s : Shared} {vars : Vars} {own : Own}
theorem acc_out {cenv : Env} {b s4 : Shared} {cv : Vars} {a0 C : Addr} {outs : List D} {h' : Heap} (F : FS cenv b s4 cv (some (("" : Str), OD.acc a0 outs))) (hCl : cenv.locals = C) (hs : Heap.SameBut C s4.heap h') :
    ∃ ys, h'.PlainList a0 ys ∧ RepL h' ys.toList outs := by
  subst hCl
  obtain ⟨a', hl', fr', ys', pl', ry'⟩ := F.own "" _ rfl
  have : a' = a0 := hl'
  subst this
  obtain ⟨m, hm⟩ := F.locs
  obtain ⟨oC, esC, epC, hoC, hdC, _⟩ := id hm
  have sq : SeqSub s4.heap h' := fun a o e ⟨xs, n, q⟩ => (hs.2 a (by rintro rfl; rw [hoC] at e; cases e; rw [hdC] at q; cases q)).trans e
  exact ⟨ys', pl'.extBut hs.extBut (plainList_ne_ns pl' hm), (ry'.stays F.keep).mono sq⟩

theorem evfl_comp {elt target iter : Expr} {ifs : List Expr} {scope : Scope} {pos : Pos} {h h₀ : Heap} {ds : List D} {okT : Expr → Prop} {sf fl : Bool} (bs : D → List (Str × D)) (f : D → Option D)
    (V : VS env h₀ h vars) (hh : A.handled = none) (src : SrC prog w A env h iter ds okT sf) (hfl : fl = true → sf = true) (hok : okT target) (hT : ∀ d ∈ ds, Tgt target d (bs d))
    (hloc : ∀ d ∈ ds, ∀ p ∈ bs d, scope.names.lookup p.1 = some .local) (hz : ds.length ≤ sizeLine)
    (each : ∀ C a0 b s' outs d, d ∈ ds → h.StaysIn b.heap → FS (cEnv scope C env) b s' (flag fl (bs d) ++ cVars env scope vars) (some (("" : Str), OD.acc a0 outs)) →
      Ts prog w A (cEnv scope C env) s'.heap ifs (f d).isSome ∧ ∀ d', f d = some d' → EvN prog w A (cEnv scope C env) b.heap s'.heap elt d')
    (hcell : (scope.names.all fun x => decide (x.2 ≠ .cell)) = true := by rfl) (hkind : scope.kind = .function := by rfl) (hempty : scope.names.lookup ("" : Str) = none := by rfl)
    (hclos : closOk env.cells scope.names = true := by rfl) (hnames : (scope.names.all fun y => !(y.2 == .local) || (scope.names.lookup y.1 == some .local)) = true := by rfl)
    (hs : ∀ x, foldedSetIterable iter env x = pure x := by intro _; rfl) :
    EvFL prog w A env h (.ListComp elt [⟨target, iter, ifs, 0⟩] scope pos) (ds.filterMap f) := ⟨fun s Q E q c => by
  have hn : ∀ y ∈ scope.names, y.2 = .local → scope.names.lookup y.1 = some .local := fun y hy e => by
    have := List.all_eq_true.mp hnames y hy
    rw [e] at this; simpa using this
  rw [eval_ListComp]
  refine wpAny_comprehension_free (use := none) rfl hs (closureFor_eq hclos) hkind hn (src.run s _ E q fun I s1 g fp wr St Mid k1 W st0 hg hfp hwr => ?_)
  refine comp_core (RR := fun acc C => compPost (model prog w) A E none Q acc C) bs f V q k1 W st0 hg hfp hwr hh hfl hok hT hloc hz hcell hkind hempty each ?_
  intro a0 C b s4 ha hC hne hk hsb F
  obtain ⟨m, hm⟩ := F.locs
  refine ⟨m, hm, fun h' hs' => ?_⟩
  obtain ⟨ys, pl, ry⟩ := acc_out F rfl hs'
  obtain ⟨h4, t4, e4, st4⟩ := id hk
  refine c a0 ys _ ⟨h', t4, by rw [e4], fun a o e => (hs'.2 a (by rintro rfl; rw [hC] at e; cases e)).trans (keeps_stays hk a o e)⟩ ha pl ry⟩

/-- the list that a comprehension made is stored -/
theorem comp_store {scope : Scope} {y : Str} {py : Pos} {a0 C : Addr} {b s4 : Shared} {outs : List D} {Q : Flow → Shared → Prop} {E : Value → Shared → Prop} {rest : List Stmt} {cv : Vars} (F : FS env s₀ s vars own)
    (ha : s.heap.get? a0 = none) (hC : s.heap.get? C = none) (hne : a0 ≠ C) (hk : Keeps s s4) (hsb : s.heap.StaysIn b.heap) (FC : FS (cEnv scope C env) b s4 cv (some (("" : Str), OD.acc a0 outs)))
    (c : ∀ b s', Up s₀ b → FS env b s' ((y, (own.isNone || outs.all D.flat, .lst outs)) :: vars) own → wpAny (model prog w) A (execs rest env) Q E s')
    (hst : storable env y = true) (hno : notOwn own y = true) :
    wpAny (model prog w) A (assign (.Name y py) env (.ref a0)) (fun _ s'' => ∃ m, s''.heap.Ns C m ∧ ∀ h', Heap.SameBut C s''.heap h' → wpAny (model prog w) A (execs rest env) Q E { s'' with heap := h' }) E s4 := by
  obtain ⟨m, hm⟩ := FC.locs
  have hm : s4.heap.Ns C m := hm
  obtain ⟨oC, esC, epC, hoC, hdC, hrC⟩ := id hm
  obtain ⟨a', hl', fr', ys', pl', ry'⟩ := FC.own "" _ rfl
  have : a' = a0 := hl'
  subst this
  have F4 := F.step hk
  obtain ⟨g4, ug4, st4, FG, all⟩ := F4.rebase
  have inS : ∀ a o, s.heap.get? a = none → s4.heap.get? a = some o → (∀ v, o.data ≠ .cell v) → ¬ OwnAddr env s₀ s4 own a := fun a o hn e hnc hmm => by
    rcases hmm with rfl | ⟨hf, x, hx⟩ | ⟨x, od, h1, h2, h3, h4⟩
    · obtain ⟨m', o', es, ep, ho', hd', _⟩ := F.locs
      rw [hn] at ho'; cases ho'
    · obtain ⟨_, v, o', ho', hd'⟩ := F4.cells hf x a hx
      rw [e] at ho'; cases ho'
      exact hnc _ hd'
    · obtain ⟨a2, l2, fr2, is2⟩ := F.own x od h1
      have : a = a2 := held_unique h2 (l2.to fun l => l.stays (keeps_stays hk))
      subst this
      obtain ⟨o5, e5, _⟩ := is2.notFields
      rw [hn] at e5; cases e5
  have gC : g4.heap.get? C = some oC := all C oC hoC (inS C oC hC hoC fun v => by rw [hdC]; simp)
  have gA : g4.heap.PlainList a' ys' := by
    obtain ⟨n, e⟩ := pl'
    exact ⟨n, all _ _ e (inS _ _ ha e fun v => by simp)⟩
  have r4 : Rep s4.heap (.ref a') (.lst outs) := .lst pl' (ry'.stays FC.keep)
  refine wpAny_assign_Name (st_store (b := own.isNone || outs.all D.flat) FG r4 (fun hb => ?_) (storable_of hst).1 (storable_of hst).2 (notOwn_of hno) fun s5 F5 => ?_)
  · refine .lst gA ?_
    cases own with
    | some p => exact ry'.anyHeap (flat_all (by simpa using hb))
    | none =>
      refine (ry'.stays FC.keep).mono fun a o e ⟨xs, n, q⟩ => all a o e fun hmm => ?_
      rcases hmm with rfl | ⟨hf, x, hx⟩ | ⟨x, od, h1, h2, h3, h4⟩
      · obtain ⟨m', o', es, ep, ho', hd', _⟩ := F4.locs
        rw [e] at ho'; cases ho'; rw [hd'] at q; cases q
      · obtain ⟨_, v, o', ho', hd'⟩ := F4.cells hf x a hx
        rw [e] at ho'; cases ho'; rw [hd'] at q; cases q
      · cases h1
  · have h5C : s5.heap.get? C = some oC := F5.keep _ _ gC
    have hn5 : s5.heap.Ns C m := ⟨oC, esC, epC, h5C, hdC, hrC⟩
    refine ⟨m, hn5, fun h' hs' => ?_⟩
    have F6 := F5.hide2 [C] (fun a ha => by
      simp only [List.mem_cons, List.not_mem_nil, or_false] at ha
      subst ha
      exact ⟨oC, h5C, fun xs n q => by rw [hdC] at q; cases q⟩)
    have hlC : C ≠ env.locals := by
      rintro rfl
      obtain ⟨m', o', es, ep, ho', hd', _⟩ := F.locs
      rw [hC] at ho'; cases ho'
    have F7 := F6.changeNs (C := C) (h' := h') (hideAll_none _ (.head _)) hn5 hlC (fun x od a h1 h2 => by
      obtain ⟨a2, l2, fr2, is2⟩ := F5.own x od h1
      have : a = a2 := held_unique h2 l2
      subst this
      rintro rfl
      rw [gC] at fr2; cases fr2) hs'
    refine c _ _ ⟨?_, fun a o e => ?_⟩ F7
    · obtain ⟨h1, e1⟩ := ug4
      exact ⟨_, by rw [e1]⟩
    · exact hideAll_get _ (st4 a o e) fun hmm => by
        simp only [List.mem_cons, List.not_mem_nil, or_false] at hmm
        subst hmm
        have := F.keep _ _ e
        rw [hC] at this; cases this
theorem ex_comp {elt target iter : Expr} {ifs : List Expr} {scope : Scope} {pos spos py : Pos} {y : Str} {ds : List D} {okT : Expr → Prop} {sf fl : Bool} {Q : Flow → Shared → Prop} {E : Value → Shared → Prop} {rest : List Stmt} (bs : D → List (Str × D)) (f : D → Option D)
    (F : FS env s₀ s vars own) (hh : A.handled = none) (src : SrC prog w A env s.heap iter ds okT sf) (hfl : fl = true → sf = true) (hok : okT target) (hT : ∀ d ∈ ds, Tgt target d (bs d))
    (hloc : ∀ d ∈ ds, ∀ p ∈ bs d, scope.names.lookup p.1 = some .local) (hz : ds.length ≤ sizeLine)
    (each : ∀ C a0 b s' outs d, d ∈ ds → s.heap.StaysIn b.heap → FS (cEnv scope C env) b s' (flag fl (bs d) ++ cVars env scope vars) (some (("" : Str), OD.acc a0 outs)) →
      Ts prog w A (cEnv scope C env) s'.heap ifs (f d).isSome ∧ ∀ d', f d = some d' → EvN prog w A (cEnv scope C env) b.heap s'.heap elt d')
    (c : ∀ b s', Up s₀ b → FS env b s' ((y, (own.isNone || (ds.filterMap f).all D.flat, .lst (ds.filterMap f))) :: vars) own → wpAny (model prog w) A (execs rest env) Q E s')
    (hst : storable env y = true := by rfl) (hno : notOwn own y = true := by rfl)
    (hsw : swapsWith (.ListComp elt [⟨target, iter, ifs, 0⟩] scope pos) (some (.Name y py)) spos.line env = pure true := by rfl)
    (hcell : (scope.names.all fun x => decide (x.2 ≠ .cell)) = true := by rfl) (hkind : scope.kind = .function := by rfl) (hempty : scope.names.lookup ("" : Str) = none := by rfl)
    (hclos : closOk env.cells scope.names = true := by rfl) (hnames : (scope.names.all fun y => !(y.2 == .local) || (scope.names.lookup y.1 == some .local)) = true := by rfl)
    (hs : ∀ x, foldedSetIterable iter env x = pure x := by intro _; rfl) :
    wpAny (model prog w) A (execs (.Assign [.Name y py] (.ListComp elt [⟨target, iter, ifs, 0⟩] scope pos) spos :: rest) env) Q E s := by
  have hn : ∀ y ∈ scope.names, y.2 = .local → scope.names.lookup y.1 = some .local := fun y hy e => by
    have := List.all_eq_true.mp hnames y hy
    rw [e] at this; simpa using this
  refine wpAny_execs_cons ?_
  rw [exec_Assign_Name_used _ _ _ _ hsw]
  refine wpAny_bind (wpAny_standAt (wpAny_bind ?_))
  show wpAny _ A (do let _ ← comprehension (.ListComp elt [⟨target, iter, ifs, 0⟩] scope pos) scope env _ (newList []) false (eval iter env) (some (assign (.Name y py) env))) _ _ s
  refine wpAny_bind (wpAny_mono (wpAny_comprehension_free (use := some (assign (.Name y py) env)) (Q := fun _ s' => wpAny (model prog w) A (execs rest env) Q E s') rfl hs (closureFor_eq hclos) hkind hn (src.run s _ E (stays_refl _) fun I s1 g fp wr St Mid k1 W st0 hg hfp hwr => ?_)) (fun _ s' hq => wpAny_pure (wpAny_pure hq)) fun _ _ e => e)
  refine comp_core (RR := fun acc C => compPost (model prog w) A E (some (assign (.Name y py) env)) (fun _ s' => wpAny (model prog w) A (execs rest env) Q E s') acc C) bs f F.vs (stays_refl _) k1 W st0 hg hfp hwr hh hfl hok hT hloc hz hcell hkind hempty each ?_
  intro a0 C b s4 ha hC hne hk hsb FC
  exact comp_store F ha hC hne hk hsb FC c hst hno
end
end Mine

end
noncomputable section
open PySem PySem.Calls PySem.W PyProof.Rows
set_option maxRecDepth 100000
set_option maxHeartbeats 1000000
namespace Mine
section
variable {prog : Program} {w : World} {A : Around} {env : Env} {h : Heap} {K : Frag} {mg mb : Str → Option Value}
theorem meth_strip {x : Str} : Meth prog w A (.str x) "strip" "str.strip" := ⟨fun s v pl Q E r hq => by
  (first | cases r using Rep.intE | cases r using Rep.strE | cases r using Rep.bytesE | cases r using Rep.lstE | cases r using Rep.tupE | cases r using Rep.boolE | cases r using Rep.tyE | cases r using Rep.noneE | cases r)
  with_reducible exact GM.strip hq⟩
theorem meth_split {x : Str} : Meth prog w A (.str x) "split" "str.split" := ⟨fun s v pl Q E r hq => by
  (first | cases r using Rep.intE | cases r using Rep.strE | cases r using Rep.bytesE | cases r using Rep.lstE | cases r using Rep.tupE | cases r using Rep.boolE | cases r using Rep.tyE | cases r using Rep.noneE | cases r)
  with_reducible exact GM.split hq⟩
theorem meth_join {x : Str} : Meth prog w A (.str x) "join" "str.join" := ⟨fun s v pl Q E r hq => by
  (first | cases r using Rep.intE | cases r using Rep.strE | cases r using Rep.bytesE | cases r using Rep.lstE | cases r using Rep.tupE | cases r using Rep.boolE | cases r using Rep.tyE | cases r using Rep.noneE | cases r)
  with_reducible exact GM.join hq⟩
theorem meth_index {x : Str} : Meth prog w A (.str x) "index" "str.index" := ⟨fun s v pl Q E r hq => by
  (first | cases r using Rep.intE | cases r using Rep.strE | cases r using Rep.bytesE | cases r using Rep.lstE | cases r using Rep.tupE | cases r using Rep.boolE | cases r using Rep.tyE | cases r using Rep.noneE | cases r)
  with_reducible exact GM.index hq⟩
theorem call_strip {x : Str} (hz : x.length ≤ sizeLine) : CallD prog w A h (.builtin "str.strip") [.str x] (.str (Txt.strip x)) := ⟨fun s vs Q E q r c => by
  obtain ⟨v, rfl, r1⟩ := r.inv1
  (first | cases r1 using Rep.intE | cases r1 using Rep.strE | cases r1 using Rep.bytesE | cases r1 using Rep.lstE | cases r1 using Rep.tupE | cases r1 using Rep.boolE | cases r1 using Rep.tyE | cases r1 using Rep.noneE | cases r1); exact SC.strip (fun t' k => c _ _ (keeps_tok s _) (.str _ _)) hz⟩
theorem call_index {x y : Str} {i : Nat} {rest : List Nat} (ho : Builtin.Str.occurrences x y 0 x.length 1 = i :: rest) : CallD prog w A h (.builtin "str.index") [.str x, .str y] (.int i) := ⟨fun s vs Q E q r c => by
  obtain ⟨v, u, rfl, r1, r2⟩ := r.inv2
  (first | cases r1 using Rep.intE | cases r1 using Rep.strE | cases r1 using Rep.bytesE | cases r1 using Rep.lstE | cases r1 using Rep.tupE | cases r1 using Rep.boolE | cases r1 using Rep.tyE | cases r1 using Rep.noneE | cases r1); (first | cases r2 using Rep.intE | cases r2 using Rep.strE | cases r2 using Rep.bytesE | cases r2 using Rep.lstE | cases r2 using Rep.tupE | cases r2 using Rep.boolE | cases r2 using Rep.tyE | cases r2 using Rep.noneE | cases r2); exact SC.index ho (c _ _ (keeps_tok s _) (.int _ _))⟩
theorem strs_are {g : Heap} : ∀ {vs : List Value} {ns : List Str}, RepL g vs (ns.map .str) → StrsAre vs ns
  | [], [], _ => .nil
  | v :: vs, n :: ns, .cons r rs => by (first | cases r using Rep.intE | cases r using Rep.strE | cases r using Rep.bytesE | cases r using Rep.lstE | cases r using Rep.tupE | cases r using Rep.boolE | cases r using Rep.tyE | cases r using Rep.noneE | cases r); exact .cons n _ (strs_are rs)
  | [], n :: ns, r => by (first | cases r using Rep.intE | cases r using Rep.strE | cases r using Rep.bytesE | cases r using Rep.lstE | cases r using Rep.tupE | cases r using Rep.boolE | cases r using Rep.tyE | cases r using Rep.noneE | cases r)
  | v :: vs, [], r => by (first | cases r using Rep.intE | cases r using Rep.strE | cases r using Rep.bytesE | cases r using Rep.lstE | cases r using Rep.tupE | cases r using Rep.boolE | cases r using Rep.tyE | cases r using Rep.noneE | cases r)
theorem repL_strs {g : Heap} : ∀ (l : List (Str × Tok)), RepL g (strValues l) ((l.map (·.1)).map D.str)
  | [] => .nil
  | (x, t) :: l => .cons (.str x t) (repL_strs l)
theorem call_join {x : Str} {ys : List Str} (hok : (ys.map (·.length)).sum + ys.length * x.length ≤ 16777216) : CallD prog w A h (.builtin "str.join") [.str x, .lst (ys.map .str)] (.str (Txt.join x ys)) := ⟨fun s vs Q E q r c => by
  obtain ⟨v, u, rfl, r1, r2⟩ := r.inv2
  (first | cases r1 using Rep.intE | cases r1 using Rep.strE | cases r1 using Rep.bytesE | cases r1 using Rep.lstE | cases r1 using Rep.tupE | cases r1 using Rep.boolE | cases r1 using Rep.tyE | cases r1 using Rep.noneE | cases r1)
  cases r2 using Rep.lstE with
  | lst p rq => exact join_list p.isList (strs_are rq) hok fun t' k => c _ _ (keeps_tok s _) (.str _ _)⟩
/-- split at a sign, at most so often: the call gives a new list -/
theorem run_split {x y : Str} {t u v : Tok} {k : Int} {s : Shared} {Q : Value → Shared → Prop} {E : Value → Shared → Prop} (hy : (y.length == 0) = false) (hk : (decide (k < -(2 ^ 63 : Int)) || decide (k ≥ 2 ^ 63)) = false) (hsz : x.length + 2 ≤ sizeLine)
    (c : ∀ l tk, l.map (·.1) = Txt.splitMax x y k → Q (.ref s.heap.objs.size) { s with heap := s.heap.push { cls := .type "list", data := .seq (strValues l).toArray }, toks := tk }) :
    wpAny (model prog w) A (call (.builtin "str.split") [.str x t, .str y u, .int k v]) Q E s := by
  have hn : (Builtin.Str.partsBetween x (Builtin.Str.occurrences x y 0 x.length (limitOf x k)) y.length).length ≤ sizeLine := by
    have e1 := StrLaws.occ_length_le_len x y 0 x.length (limitOf x k)
    rw [length_partsBetween]; omega
  cases h1 : (decide (x.length < y.length) || decide (Builtin.Str.strKind x < Builtin.Str.strKind y))
  · cases hf : (Builtin.Str.occurrences x y 0 x.length (limitOf x k)).isEmpty
    · refine call_meets F.slot_str_split (typeIs_str _ _ _) F.entry_str_split (F.args_str_split_3 _ _ _) (meets_str_split_sep_max x y k t u v hk h1 hy hf (by omega) hn) ?_
      show wants Q E _ { s with toks := _, heap := s.heap.push { cls := .type "list", data := .seq (strsFrom s.toks (Builtin.Str.partsBetween x (Builtin.Str.occurrences x y 0 x.length (limitOf x k)) y.length)).toArray } }
      rw [strsFrom_eq]
      exact c (numbered s.toks _) _ ((numbered_texts _ _).trans ((if_neg (ne_true_of_eq_false h1)).trans (if_neg (ne_true_of_eq_false hf))).symm)
    · exact call_meets F.slot_str_split (typeIs_str _ _ _) F.entry_str_split (F.args_str_split_3 _ _ _) (meets_str_split_max_not_found x y k t u v hk h1 hy hf)
        (c [(x, t)] s.toks ((if_neg (ne_true_of_eq_false h1)).trans (if_pos hf)).symm)
  · exact call_meets F.slot_str_split (typeIs_str _ _ _) F.entry_str_split (F.args_str_split_3 _ _ _) (meets_str_split_max_cannot_occur x y k t u v hk h1)
      (c [(x, t)] s.toks (if_pos h1).symm)
theorem call_split {x y : Str} {k : Int} (hy : (y.length == 0) = false) (hk : (decide (k < -(2 ^ 63 : Int)) || decide (k ≥ 2 ^ 63)) = false) (hsz : x.length + 2 ≤ sizeLine) :
    CallD prog w A h (.builtin "str.split") [.str x, .str y, .int k] (.lst ((Txt.splitMax x y k).map .str)) := ⟨fun s vs Q E q r c => by
  cases r with | cons r1 r => cases r with | cons r2 r => cases r with | cons r3 r =>
  (first | cases r using Rep.intE | cases r using Rep.strE | cases r using Rep.bytesE | cases r using Rep.lstE | cases r using Rep.tupE | cases r using Rep.boolE | cases r using Rep.tyE | cases r using Rep.noneE | cases r)
  (first | cases r1 using Rep.intE | cases r1 using Rep.strE | cases r1 using Rep.bytesE | cases r1 using Rep.lstE | cases r1 using Rep.tupE | cases r1 using Rep.boolE | cases r1 using Rep.tyE | cases r1 using Rep.noneE | cases r1); (first | cases r2 using Rep.intE | cases r2 using Rep.strE | cases r2 using Rep.bytesE | cases r2 using Rep.lstE | cases r2 using Rep.tupE | cases r2 using Rep.boolE | cases r2 using Rep.tyE | cases r2 using Rep.noneE | cases r2); (first | cases r3 using Rep.intE | cases r3 using Rep.strE | cases r3 using Rep.bytesE | cases r3 using Rep.lstE | cases r3 using Rep.tupE | cases r3 using Rep.boolE | cases r3 using Rep.tyE | cases r3 using Rep.noneE | cases r3)
  refine run_split hy hk hsz fun l tk e => c _ _ ⟨_, tk, rfl, fun b o eb => Heap.get?_push_of_some _ eb⟩ ?_
  rw [← e]
  exact .lst ⟨0, Heap.get?_push_size _ rfl⟩ (by simpa using repL_strs l)⟩
theorem call_len_lst {ds : List D} (hz : ds.length ≤ sizeLine) : CallD prog w A h (.builtin "len") [.lst ds] (.int ds.length) := ⟨fun s vs Q E q r c => by
  obtain ⟨v, rfl, r1⟩ := r.inv1
  cases r1 using Rep.lstE with
  | lst p rq =>
    refine PySem.Calls.call_len_list p.isList (by rw [size_of_repL rq]; rw [sizeLine_eq] at hz; omega) ?_
    rw [size_of_repL rq]
    exact c _ _ (keeps_tok s _) (.int _ _)⟩
end
end Mine

end
noncomputable section
open PySem PySem.Calls PySem.W PyProof.Rows
set_option maxRecDepth 100000
set_option maxHeartbeats 1000000
namespace Mine
section
variable {prog : Program} {w : World} {A : Around} {env : Env} {h : Heap} {K : Frag} {mg mb : Str → Option Value}
theorem iter_walkT {g : Heap} {I : Addr} {fp wr : List Addr} {n : Nat} {Pt : Nat → Array Value → Prop} {St : Nat → Heap → Prop} {Mid : Nat → Addr → Heap → Prop} {ds : List D} (W : WalksT prog w A I fp wr n Pt St Mid) (hn : ds.length = n)
    (hP : ∀ i vals d, Pt i vals → ds[i]? = some d → ∃ es, d = .tup es ∧ RepL g vals.toList es) (wF : ∀ i h, St i h → ∀ b ∈ wr, ∃ o vs, h.get? b = some o ∧ o.data = .fields vs)
    (mF : ∀ i T h, Mid i T h → ∀ b ∈ wr, ∃ o vs, h.get? b = some o ∧ o.data = .fields vs) : Iter prog w A g I fp wr ds St (fun i v h => ∃ T, v = .ref T ∧ Mid i T h) isTupleT false where
  sub := W.sub
  frame := W.frame
  wrF := wF
  midF := fun i v h ⟨T, _, m⟩ => mF _ _ _ m
  item := fun i d s Q E e st hg hQ => W.item i s Q E (by rw [← hn]; exact (List.getElem?_eq_some_iff.mp e).1) st fun T vals h' tk hp hT ht mid hk => by
    obtain ⟨es, rfl, r⟩ := hP i vals d hp e
    exact hQ _ h' tk (.tup (PT.of ht) ((r.mono hg).mono (seqSub_wr (wF _ _ st) hk))) (fun q => by cases q) ⟨T, rfl, mid⟩ hk
  go := fun i v target s Q E ⟨T, e, m⟩ ht hQ => by
    subst e
    cases target <;> first | exact ht.elim | exact W.go _ _ _ i T s Q E m hQ
  done := fun s Q E st hQ => W.done s Q E (hn ▸ st) hQ
  self := W.self
noncomputable def enumD (ds : List D) : List D := ds.zipIdx.map fun p => .tup [.int p.2, p.1]
theorem enumD_get {ds : List D} {i : Nat} {d : D} (e : (enumD ds)[i]? = some d) : ∃ d0, ds[i]? = some d0 ∧ d = .tup [.int i, d0] := by
  unfold enumD at e
  rw [List.getElem?_map, List.getElem?_zipIdx] at e
  cases q : ds[i]? with
  | none => rw [q] at e; cases e
  | some d0 => rw [q] at e; simp at e; exact ⟨d0, rfl, e.symm⟩
theorem enumD_len {ds : List D} : (enumD ds).length = ds.length := by simp [enumD]
theorem enumD_mem {ds : List D} {d : D} (h : d ∈ enumD ds) : ∃ i d0, ds[i]? = some d0 ∧ d = .tup [.int (i : Nat), d0] := by
  obtain ⟨i, hi⟩ := List.mem_iff_getElem?.mp h
  exact ⟨i, enumD_get hi⟩
theorem iter_enum (hh : A.handled = none) {g : Heap} {e it l : Addr} (hei : e ≠ it) (hle : l ≠ e) (hli : l ≠ it) {items : Array Value} {ds : List D} (r : RepL g items.toList ds) :
    Iter prog w A g e [e, it, l] [e, it] (enumD ds) (fun i h => (∃ old, IsEnum h e it i old) ∧ h.IsListIter it l i ∧ h.IsList l items)
      (fun i v h => ∃ T, v = .ref T ∧ (∃ x, IsEnumOut h e it ((i : Int) + 1) x T) ∧ h.IsListIter it l (i + 1) ∧ h.IsList l items ∧ T ≠ e ∧ T ≠ it) isTupleT false :=
  iter_walkT (WalksT.enumerate hh e it l hei hle hli items) (by rw [enumD_len, size_of_repL r]) (fun i vals d hp hd => by
      obtain ⟨t, x, hx, rfl⟩ := hp
      obtain ⟨d0, h0, rfl⟩ := enumD_get hd
      obtain ⟨x', hx', rx⟩ := r.get h0
      have : items[i]? = some x' := by simpa using hx'
      rw [this] at hx; cases hx
      exact ⟨_, rfl, .cons (.int _ _) (.cons rx .nil)⟩)
    (fun i h st b hb => by
      obtain ⟨⟨old, he⟩, ⟨o, ho, _, hd⟩, _⟩ := st
      simp only [List.mem_cons, List.not_mem_nil, or_false] at hb
      rcases hb with rfl | rfl
      · exact ⟨_, _, he, rfl⟩
      · exact ⟨o, _, ho, hd⟩)
    (fun i T h st b hb => by
      obtain ⟨⟨x, he⟩, ⟨o, ho, _, hd⟩, _⟩ := st
      simp only [List.mem_cons, List.not_mem_nil, or_false] at hb
      rcases hb with rfl | rfl
      · exact ⟨_, _, he, rfl⟩
      · exact ⟨o, _, ho, hd⟩)
/-- enumerate(a list) -/
theorem sr_enum {x : Str} {p pos : Pos} {e : Expr} {ds : List D} (hh : A.handled = none) (n : NameIs prog w A env h x (.type "enumerate")) (y : Ev prog w A env h e (.lst ds)) (hst : noStar [e] = true := by rfl) :
    Sr prog w A env h none (.Call (.Name x p) [e] [] pos) (enumD ds) isTupleT false := ⟨fun s Q E q c => by
  have he' : starEach (e :: []) env = (false, eval e env) :: starEach [] env := by
    cases e <;> first | rfl | cases hst
  refine wpAny_bind (n.run p s _ E q (callWith_any hst (.type _) (args_cons (y.run s _ E q fun v s1 k1 r1 => args_nil ⟨keeps_stays k1, ?_⟩) he')))
  cases r1 using Rep.lstE with
  | lst pl r =>
    rename_i a vs
    obtain ⟨m, hp⟩ := id pl
    refine call_enumerate_list pl.isList fun h' he hit hz hk => ?_
    have ha : a < s1.heap.objs.size := Heap.lt_size hp
    have st0 : (∃ old, IsEnum h' (s1.heap.objs.size + 1) s1.heap.objs.size (0 : Nat) old) ∧ h'.IsListIter s1.heap.objs.size a 0 ∧ h'.IsList a vs := ⟨⟨_, he⟩, hit, pl.isList.at fun o e => hk _ o e⟩
    refine wpAny_pyIter_enum he (c _ _ s1.heap _ _ _ _ (keeps_trans k1 (keeps_heap hk)) (iter_enum hh (Nat.succ_ne_self _) (Nat.ne_of_lt (Nat.lt_succ_of_lt ha)) (Nat.ne_of_lt ha) r) st0 (.of_stays hk) ?_ ?_ ?_ ?_)
    · intro b hb
      simp only [List.mem_cons, List.not_mem_nil, or_false] at hb
      show b < h'.objs.size
      rw [hz]
      rcases hb with rfl | rfl | rfl
      · exact Nat.lt_succ_self _
      · exact Nat.lt_succ_of_lt (Nat.lt_succ_self _)
      · exact Nat.lt_succ_of_lt (Nat.lt_succ_of_lt ha)
    · intro b hb
      simp only [List.mem_cons, List.not_mem_nil, or_false] at hb
      rcases hb with rfl | rfl | rfl
      · exact ⟨_, he, .inl ⟨⟨_, rfl⟩, .head _⟩⟩
      · obtain ⟨o, ho, _, hd⟩ := hit
        exact ⟨o, ho, .inl ⟨⟨_, hd⟩, .tail _ (.head _)⟩⟩
      · exact ⟨_, hk _ _ hp, .inr ⟨⟨_, _, rfl⟩, fun g e => by cases e⟩⟩
    · have fresh : ∀ b, s1.heap.objs.size ≤ b → s.heap.get? b = none := fun b hb => by
        cases e : s.heap.get? b with
        | none => rfl
        | some o => exact absurd (Heap.lt_size (keeps_stays k1 _ _ e)) (Nat.not_lt.mpr hb)
      intro b hb
      simp only [List.mem_cons, List.not_mem_nil, or_false] at hb
      rcases hb with rfl | rfl
      · exact fresh _ (Nat.le_succ _)
      · exact fresh _ (Nat.le_refl _)
    · intro g e; cases e⟩
/-- range(n) -/
theorem sr_range {x : Str} {p pos : Pos} {e : Expr} {n : Int} {st : Option Heap} (hh : A.handled = none) (nm : NameIs prog w A env h x (.type "range")) (y : Ev prog w A env h e (.int n)) (hn : n < 2 ^ 62) (hn0 : -(2 ^ 62) ≤ n) (hst : noStar [e] = true := by rfl) :
    Sr prog w A env h st (.Call (.Name x p) [e] [] pos) ((List.range n.toNat).map fun (i : Nat) => .int (i : Int)) isName true := ⟨fun s Q E q c => by
  have he' : starEach (e :: []) env = (false, eval e env) :: starEach [] env := by
    cases e <;> first | rfl | cases hst
  refine wpAny_bind (nm.run p s _ E q (callWith_any hst (.type _) (args_cons (y.run s _ E q fun v s1 k1 r1 => args_nil ⟨keeps_stays k1, ?_⟩) he')))
  cases r1 using Rep.intE with
  | int t =>
  refine call_range_1 ?_
  have hsz : Builtin.Range.rangeSize 0 n 1 = (n.toNat : Int) := by rw [rangeSize_one]; split <;> omega
  refine wpAny_pyIter_range (IsRange.new _ _ _ _ _ _ _) (small_one (by decide) (by decide) hn0 hn) ?_
  rw [hsz]
  have k2 : Keeps s1 { s1 with heap := (s1.heap.push { cls := .type "range", data := .fields #[.int 0 s1.toks, .int n t, .int 1 (s1.toks + 1)] }).push { cls := .type "range_iterator", data := .fields #[rawInt 0, rawInt (n.toNat : Int), rawInt 1] }, toks := s1.toks + 1 + 1 } :=
    ⟨_, _, rfl, fun b o e => Heap.get?_push_of_some _ (Heap.get?_push_of_some _ e)⟩
  have hit : ∀ (h' : Heap), IsRangeIter (h'.push { cls := .type "range_iterator", data := .fields #[rawInt 0, rawInt (n.toNat : Int), rawInt 1] }) h'.objs.size 0 (n.toNat : Int) 1 := fun h' => Heap.get?_push_size _ rfl
  have W := iter_range (prog := prog) (w := w) (A := A) hh (g := {}) (s1.heap.push { cls := .type "range", data := .fields #[.int 0 s1.toks, .int n t, .int 1 (s1.toks + 1)] }).objs.size 0 1 n.toNat
  have hds : ((List.range n.toNat).map fun (i : Nat) => D.int (0 + (i : Int) * 1)) = ((List.range n.toNat).map fun (i : Nat) => D.int (i : Int)) := by
    apply List.map_congr_left; intro i _; congr 1; omega
  rw [hds] at W
  refine c _ _ {} _ _ _ _ (keeps_trans k1 k2) W ?_ (fun b o e => by cases e) ?_ ?_ ?_ ?_
  · have := hit (s1.heap.push { cls := .type "range", data := .fields #[.int 0 s1.toks, .int n t, .int 1 (s1.toks + 1)] })
    simpa using this
  · intro b hb
    simp only [List.mem_cons, List.not_mem_nil, or_false] at hb
    subst hb; simp
  · intro b hb
    simp only [List.mem_cons, List.not_mem_nil, or_false] at hb
    subst hb; exact ⟨_, hit _, .inl ⟨⟨_, rfl⟩, .head _⟩⟩
  · intro b hb
    simp only [List.mem_cons, List.not_mem_nil, or_false] at hb
    subst hb
    cases e : s.heap.get? (s1.heap.push { cls := .type "range", data := .fields #[.int 0 s1.toks, .int n t, .int 1 (s1.toks + 1)] }).objs.size with
    | none => rfl
    | some o => have h1 := Heap.lt_size (keeps_stays k1 _ _ e); rw [Heap.size_push] at h1; exact absurd h1 (Nat.not_lt.mpr (Nat.le_succ _))
  · intro g e b o e; cases e⟩
end
end Mine

end
noncomputable section
open PySem PySem.Calls PySem.W PyProof.Rows
set_option maxRecDepth 100000
set_option maxHeartbeats 1000000
namespace Mine
theorem lookup_append_str {x : Str} {v : Value} : ∀ {l m : List (Str × Value)}, l.lookup x = none → (l ++ m).lookup x = m.lookup x
  | [], m, _ => rfl
  | (y, u) :: l, m, h => by
    rw [List.lookup_cons] at h
    rw [List.cons_append, List.lookup_cons]
    cases hxy : x == y with
    | true => rw [hxy] at h; cases h
    | false => rw [hxy] at h; exact lookup_append_str (v := v) h
theorem lookup_append_some {x : Str} {v : Value} : ∀ {l m : List (Str × Value)}, l.lookup x = some v → (l ++ m).lookup x = some v
  | [], m, h => by cases h
  | (y, u) :: l, m, h => by
    rw [List.lookup_cons] at h
    rw [List.cons_append, List.lookup_cons]
    cases hxy : x == y with
    | true => rw [hxy] at h; exact h
    | false => rw [hxy] at h; exact lookup_append_some h
theorem bindL_none {kd : Str → Option NameKind} {x : Str} : ∀ {binds : List (Str × Value)} {m : Str → Option Value}, binds.reverse.lookup x = none → bindL kd binds m x = m x
  | [], m, _ => rfl
  | (n, v) :: r, m, h => by
    rw [List.reverse_cons] at h
    cases hr : r.reverse.lookup x with
    | some u => rw [lookup_append_some hr] at h; cases h
    | none =>
      rw [lookup_append_str (v := v) hr, List.lookup_cons] at h
      unfold bindL
      rw [bindL_none hr]
      split
      · cases hxn : x == n with
        | true => rw [hxn] at h; cases h
        | false =>
          have : x ≠ n := by simpa using hxn
          simp [this]
      · rfl
theorem bindC_none {kd : Str → Option NameKind} {x : Str} : ∀ {binds : List (Str × Value)} {m : Str → Option Value}, binds.reverse.lookup x = none → bindC kd binds m x = m x
  | [], m, _ => rfl
  | (n, v) :: r, m, h => by
    rw [List.reverse_cons] at h
    cases hr : r.reverse.lookup x with
    | some u => rw [lookup_append_some hr] at h; cases h
    | none =>
      rw [lookup_append_str (v := v) hr, List.lookup_cons] at h
      unfold bindC
      rw [bindC_none hr]
      split
      · rfl
      · cases hxn : x == n with
        | true => rw [hxn] at h; cases h
        | false =>
          have : x ≠ n := by simpa using hxn
          simp [this]
theorem bindL_look {kd : Str → Option NameKind} {x : Str} {v : Value} (hk : kd x = some .local) : ∀ {binds : List (Str × Value)} {m : Str → Option Value}, binds.reverse.lookup x = some v → bindL kd binds m x = some v
  | [], m, h => by cases h
  | (n, u) :: r, m, h => by
    rw [List.reverse_cons] at h
    unfold bindL
    cases hr : r.reverse.lookup x with
    | some u' => rw [lookup_append_some hr] at h; cases h; exact bindL_look hk hr
    | none =>
      rw [lookup_append_str (v := v) hr, List.lookup_cons] at h
      rw [bindL_none hr]
      cases hxn : x == n with
      | true =>
        rw [hxn] at h; cases h
        have := beq_iff_eq.mp hxn; subst this
        rw [if_pos hk]; simp
      | false => rw [hxn] at h; cases h
theorem bindC_look {kd : Str → Option NameKind} {x : Str} {v : Value} (hk : kd x ≠ some .local) : ∀ {binds : List (Str × Value)} {m : Str → Option Value}, binds.reverse.lookup x = some v → bindC kd binds m x = some v
  | [], m, h => by cases h
  | (n, u) :: r, m, h => by
    rw [List.reverse_cons] at h
    unfold bindC
    cases hr : r.reverse.lookup x with
    | some u' => rw [lookup_append_some hr] at h; cases h; exact bindC_look hk hr
    | none =>
      rw [lookup_append_str (v := v) hr, List.lookup_cons] at h
      rw [bindC_none hr]
      cases hxn : x == n with
      | true =>
        rw [hxn] at h; cases h
        have := beq_iff_eq.mp hxn; subst this
        rw [if_neg hk]; simp
      | false => rw [hxn] at h; cases h

section
variable {prog : Program} {w : World} {K : Frag} {mg mb : Str → Option Value} {A : Around} {s : Shared} {R : Result → Shared → Prop}
theorem enter_cells {name qual : Str} {params : Arguments} {body : List Stmt} {scope : Scope} {dV kV doc pm cdv ct oc : Value} {an od : Option Addr} {osl : Array (Option Value)} {f : Addr} {vals : List Value} {binds : List (Str × Value)} {vars : Vars} {n : Nat}
    (hf : Fit A n) (G : Gr K mg mb s.heap)
    (ho : K.lookup f = some ⟨oc, od, .func (fnOf name qual params body scope dV kV doc pm an cdv ct), osl⟩) (hcd : codeIn K cdv qual = true)
    (hb : bindArgs (fnOf name qual params body scope dV kV doc pm an cdv ct) ⟨vals, []⟩ = pure binds)
    (hloc : ∀ L, (binds.all fun x => decide (scope.names.lookup x.1 = some .local) || (decide (scope.names.lookup x.1 = some .cell) && ((cellsFrom (L + 1) scope.names []).lookup x.1).isSome)) = true)
    (hrep : BR s.heap binds.reverse vars)
    (h : ∀ L s₁, FS (envOfC qual scope L f cdv) s s₁ vars none →
      wpAny (model prog w) (A.deeper (envOfC qual scope L f cdv)) (execs body (envOfC qual scope L f cdv)) (fun fl s' => R (.ok (.ret (match fl with | .ret v => v | _ => .none))) s')
        (fun e s' => wpAny (model prog w) (A.deeper (envOfC qual scope L f cdv)) (leaving (envOfC qual scope L f cdv) e) (fun _ s'' => R (.error e) s'') (fun e' s'' => R (.error e') s'') s') s₁)
    (hco : scope.isCoroutine = false := by rfl) (hgen : scope.isGenerator = false := by rfl) (hk : scope.kind = .function := by rfl) : codeAny (model prog w) A (.call (.ref f) ⟨vals, []⟩) R s := by
  have hkind : ∀ x ∈ binds, scope.names.lookup x.1 = some .local ∨ (scope.names.lookup x.1 = some .cell ∧ ((cellsFrom (s.heap.objs.size + 1) scope.names []).lookup x.1).isSome = true) := fun x hx => by
    have := List.all_eq_true.mp (hloc s.heap.objs.size) x hx
    simpa using this
  refine codeAny_call_cells (fd := fnOf name qual params body scope dV kV doc pm an cdv ct) (body := body) (binds := binds) hf.room (G.X _ _ ho) rfl G.nolimit (codeRec_of G.X hcd) rfl hb rfl hkind (fun s₁ X => ?_) hco hgen hk
  have X' : InCallC s s.heap.objs.size (bindL (envOfC qual scope s.heap.objs.size f cdv).kindOf binds fun _ => none) (cellsFrom (s.heap.objs.size + 1) scope.names []) (bindC (envOfC qual scope s.heap.objs.size f cdv).kindOf binds fun _ => none) s₁ := X
  obtain ⟨h₁, tk, e₁, keep⟩ := X'.done
  refine h s.heap.objs.size s₁ ⟨⟨h₁, tk, e₁⟩, ⟨X'.toInCall.keep, fun x b d e => ?_⟩, Heap.get?_none_of_le (Nat.le_refl _), ⟨_, X'.toInCall.ns⟩, fun _ x c e => ?_, fun _ x y c e e' => ?_, fun x ds e => by cases e⟩
  · obtain ⟨v, hv, r⟩ := hrep.look e
    have hm : (x, v) ∈ binds := by
      have := mem_of_lookup hv
      simpa using this
    refine ⟨v, ?_, r.stays X'.toInCall.keep, fun _ => r⟩
    rcases hkind _ hm with hl | ⟨hl, hc⟩
    · exact .inl ⟨hl, _, X'.toInCall.ns, bindL_look hl hv⟩
    · obtain ⟨c, hc⟩ := Option.isSome_iff_exists.mp hc
      refine .inr ⟨.inl hl, c, hc, ?_⟩
      have hnl : (envOfC qual scope s.heap.objs.size f cdv).kindOf x ≠ some .local := by
        show scope.names.lookup x ≠ _
        rw [hl]; simp
      have := X'.cell x c hc
      rw [bindC_look hnl hv] at this
      exact this
  · refine ⟨Heap.get?_none_of_le (Nat.le_of_lt (X'.above x c (mem_of_lookup e))), _, X'.cell x c e⟩
  · exact name_of_addr X'.apart (mem_of_lookup e) (mem_of_lookup e')

/-! contracts whose results are new -/
structure FnF (prog : Program) (w : World) (K : Frag) (mg mb : Str → Option Value) (n : Nat) (f : Addr) (ds : List D) (kw : List (Str × D)) (d : D) : Prop where
  run : ∀ (A : Around) (s : Shared) (vs : List Value) (kvs : List (Str × Value)) (R : Result → Shared → Prop), Fit A n → Gr K mg mb s.heap → RepL s.heap vs ds → kvs.map (·.1) = kw.map (·.1) → RepL s.heap (kvs.map (·.2)) (kw.map (·.2)) →
    (∀ v s', Keeps s s' → Rep (nw {} s.heap s'.heap) v d → R (.ok (.ret v)) s') → codeAny (model prog w) A (.call (.ref f) ⟨vs, kvs⟩) R s
theorem FnF.fn {n : Nat} {f : Addr} {ds : List D} {kw : List (Str × D)} {d : D} (C : FnF prog w K mg mb n f ds kw d) : Fn prog w K mg mb n f ds kw d := ⟨fun A s vs kvs R hf G r hk rk k => C.run A s vs kvs R hf G r hk rk fun v s' ks rv => k v s' ks (rv.stays nw_in)⟩
/-- a return of new data -/
theorem ex_returnF {env : Env} {s₀ b : Shared} {vars : Vars} {own : Own} {Q : Flow → Shared → Prop} {E : Value → Shared → Prop} {rest : List Stmt} {e : Expr} {pos : Pos} {d : D} (F : FS env b s vars own) (ub : Up s₀ b) (he : EvN prog w A env {} s.heap e d)
    (c : ∀ v s', Keeps s₀ s' → Rep (nw {} s₀.heap s'.heap) v d → Q (.ret v) s') : wpAny (model prog w) A (execs (.Return (some e) pos :: rest) env) Q E s :=
  wpAny_execs_cons (wpAny_Return_some (he.run s _ E (stays_refl _) fun v s1 k1 r1 => c v s1 ((F.step k1).keepsUp ub) (r1.stays (nw_late (stays_trans ub.2 F.keep)))))
theorem evn_fn {env : Env} {g h : Heap} {x : Str} {p pos : Pos} {es : List Expr} {f : Addr} {ds : List D} {d : D} {n : Nat} (N : NameIs prog w A env h x (.ref f)) (hc : Callee h (.ref f)) (a : EvL prog w A env h es ds) (C : FnF prog w K mg mb n f ds [] d) (G : Gr K mg mb h) (hf : Fit A n) (hn : noStar es = true := by rfl) :
    EvN prog w A env g h (.Call (.Name x p) es [] pos) d := ⟨fun s Q E q k =>
  wpAny_bind (N.run p s _ E q (callWith_any hn (hc.stays q) (a.run pos s _ E q fun vs s1 k1 r1 => ⟨keeps_stays k1, wpAny_call (C.run A s1 vs [] _ hf (G.stays (stays_trans q (keeps_stays k1))) r1 rfl .nil fun v s' ks rv =>
    k v s' (keeps_trans k1 ks) (rv.stays (stays_trans (nw_late (keeps_stays k1)) (nw_mono (fun a o e => by cases e)))))⟩)))⟩
end
end Mine

end
noncomputable section
open PySem PySem.Calls PySem.W PyProof.Rows
set_option maxRecDepth 100000
set_option maxHeartbeats 1000000
namespace Mine
theorem cut_map {α β : Type} (f : α → β) (l : List α) (lo hi : Option Int) : cut (l.map f) lo hi = (cut l lo hi).map f := by
  unfold cut
  simp [List.map_drop, List.map_take]
section
variable {prog : Program} {w : World} {A : Around} {env : Env} {h : Heap}
theorem fresh_later {s s1 : Shared} (k : Keeps s s1) {a : Addr} (ha : s1.heap.objs.size ≤ a) : s.heap.get? a = none := by
  cases e : s.heap.get? a with
  | none => rfl
  | some o => exact absurd (Heap.lt_size (keeps_stays k _ _ e)) (Nat.not_lt.mpr ha)
theorem evfl_slice {value : Expr} {lower upper : Option Expr} {p pos : Pos} {ds : List D} {lo hi : Option Int} (hv : Ev prog w A env h value (.lst ds)) (hl : Part prog w A env h lower lo) (hu : Part prog w A env h upper hi) (hz : ds.length ≤ sizeLine) :
    EvFL prog w A env h (.Subscript value (.Slice lower upper none p) pos) (cut ds lo hi) :=
  ⟨fun s Q E q c => Subscript_ (hv.run s _ E q fun v1 s1 k1 r1 => wpAny_Slice (hl.run s1 _ E (stays_trans q (keeps_stays k1)) fun vl s2 k2 pl => hu.run s2 _ E (stays_trans q (keeps_stays (keeps_trans k1 k2))) fun vu s3 k3 pu => wpAny_pure (by
    have r1' := r1.stays (keeps_stays (keeps_trans (keeps_trans k2 k3) (keeps_push s3 { cls := .type "slice", data := .fields #[vl, vu, .none] })))
    obtain ⟨T, id, hT, hlk⟩ := rep_getitem r1' trivial
    refine sub_tail hT hlk ?_
    cases r1' using Rep.lstE with
    | lst p1 q1 =>
      have hss := Heap.IsSliceOf.new s3.heap vl vu .none
      refine wpAny_getItem_list_slice p1.isList hss pl pu .none (by simp) ?_ (by rw [size_of_repL q1]; exact hz)
      have kk := keeps_trans (keeps_trans (keeps_trans k1 k2) k3) (keeps_push s3 { cls := .type "slice", data := .fields #[vl, vu, .none] })
      refine c _ _ _ (keeps_trans kk (keeps_push _ _)) (fresh_later kk (Nat.le_refl _)) ⟨0, Heap.get?_push_size _ rfl⟩ ?_
      exact (mem_pick q1 lo hi).stays fun _ _ e => Heap.get?_push_of_some _ e)))⟩
theorem evfl_rev {value : Expr} {st : Expr} {p pos : Pos} {ds : List D} (hv : Ev prog w A env h value (.lst ds)) (hs : Ev prog w A env h st (.int (-1))) (hz : ds.length ≤ sizeLine) :
    EvFL prog w A env h (.Subscript value (.Slice none none (some st) p) pos) ds.reverse :=
  ⟨fun s Q E q c => Subscript_ (hv.run s _ E q fun v1 s1 k1 r1 => wpAny_Slice (wpAny_pure (wpAny_pure (hs.run s1 _ E (stays_trans q (keeps_stays k1)) fun vk s3 k3 rk => by
    cases rk using Rep.intE with
    | int t =>
    have r1' := r1.stays (keeps_stays (keeps_trans k3 (keeps_push s3 { cls := .type "slice", data := .fields #[.none, .none, .int (-1) t] })))
    obtain ⟨T, id, hT, hlk⟩ := rep_getitem r1' trivial
    refine sub_tail hT hlk ?_
    cases r1' using Rep.lstE with
    | lst p1 q1 =>
      have hss := Heap.IsSliceOf.new s3.heap .none .none (.int (-1) t)
      refine wpAny_getItem_list_slice p1.isList hss .none .none (.int (-1) t) (by simp) ?_ (by rw [size_of_repL q1]; exact hz)
      have kk := keeps_trans (keeps_trans k1 k3) (keeps_push s3 { cls := .type "slice", data := .fields #[.none, .none, .int (-1) t] })
      refine c _ _ _ (keeps_trans kk (keeps_push _ _)) (fresh_later kk (Nat.le_refl _)) ⟨0, Heap.get?_push_size _ rfl⟩ ?_
      rw [krv_pick]
      exact q1.reverse.stays fun _ _ e => Heap.get?_push_of_some _ e))))⟩
theorem evfl_add {l r : Expr} {pos : Pos} {xs ys : List D} (hl : Ev prog w A env h l (.lst xs)) (hr : Ev prog w A env h r (.lst ys)) (hz : xs.length + ys.length ≤ sizeLine) : EvFL prog w A env h (.BinOp l .Add r pos) (xs ++ ys) :=
  ⟨fun s Q E q c => wpAny_BinOp (hl.run s _ E q fun v1 s1 k1 r1 => hr.run s1 _ E (stays_trans q (keeps_stays k1)) fun v2 s2 k2 r2 => by
    have r1' := r1.stays (keeps_stays k2)
    cases r1' using Rep.lstE with
    | lst p1 q1 =>
    cases r2 using Rep.lstE with
    | lst p2 q2 =>
      obtain ⟨n1, e1⟩ := p1
      obtain ⟨n2, e2⟩ := p2
      refine P.add_list e1 e2 (c _ _ _ (keeps_trans (keeps_trans k1 k2) (keeps_push s2 _)) (fresh_later (keeps_trans k1 k2) (Nat.le_refl _)) ⟨0, Heap.get?_push_size _ rfl⟩ ?_) (by rw [size_of_repL q1, size_of_repL q2]; exact hz)
      rw [Array.toList_append]
      exact (RepL.append q2 q1).stays fun _ _ e => Heap.get?_push_of_some _ e)⟩
end
end Mine

end
noncomputable section
open PySem PySem.Calls PySem.W PyProof.Rows
set_option maxRecDepth 100000
set_option maxHeartbeats 1000000
namespace Mine
open PySem.SeqAt
/-- data that may be compared with their like, so deep -/
noncomputable def D.good : Nat → D → Bool
  | _, .none => true
  | _, .bool _ => true
  | _, .int _ => true
  | _, .str _ => true
  | n + 1, .lst ds => ds.all (D.good n)
  | n + 1, .tup ds => ds.all (D.good n)
  | _, _ => false
theorem repL_nth {g : Heap} {vs : Array Value} {ds : List D} (r : RepL g vs.toList ds) {j : Nat} (h1 : j < vs.size) : ∃ d, ds[j]? = some d ∧ Rep g vs[j] d := by
  have hj : j < ds.length := by rw [← size_of_repL r]; exact h1
  obtain ⟨v, hv, hr⟩ := r.get (List.getElem?_eq_getElem hj)
  have : vs[j]? = some v := by simpa using hv
  rw [Array.getElem?_eq_getElem h1] at this
  cases this
  exact ⟨_, List.getElem?_eq_getElem hj, hr⟩
theorem range_all_true (n : Nat) : (List.range n).all (fun _ => true) = true := by simp
theorem eqAt_flat {s : Shared} {d : D} {v1 v2 : Value} {A : Around} (hg : d.good 0 = true) (r1 : Rep s.heap v1 d) (r2 : Rep s.heap v2 d) : EqAt A s v1 v2 true := by
  cases d with
  | none => (first | cases r1 using Rep.intE | cases r1 using Rep.strE | cases r1 using Rep.bytesE | cases r1 using Rep.lstE | cases r1 using Rep.tupE | cases r1 using Rep.boolE | cases r1 using Rep.tyE | cases r1 using Rep.noneE | cases r1); (first | cases r2 using Rep.intE | cases r2 using Rep.strE | cases r2 using Rep.bytesE | cases r2 using Rep.lstE | cases r2 using Rep.tupE | cases r2 using Rep.boolE | cases r2 using Rep.tyE | cases r2 using Rep.noneE | cases r2); exact EqAt.same _
  | bool b => (first | cases r1 using Rep.intE | cases r1 using Rep.strE | cases r1 using Rep.bytesE | cases r1 using Rep.lstE | cases r1 using Rep.tupE | cases r1 using Rep.boolE | cases r1 using Rep.tyE | cases r1 using Rep.noneE | cases r1); (first | cases r2 using Rep.intE | cases r2 using Rep.strE | cases r2 using Rep.bytesE | cases r2 using Rep.lstE | cases r2 using Rep.tupE | cases r2 using Rep.boolE | cases r2 using Rep.tyE | cases r2 using Rep.noneE | cases r2); exact EqAt.same _
  | int i =>
    cases r1 using Rep.intE with
    | int t =>
    cases r2 using Rep.intE with
    | int u =>
    have := EqAt.int_int (A := A) (s := s) i t i u
    rw [beq_self_eq_true] at this; exact this
  | str x =>
    cases r1 using Rep.strE with
    | str t =>
    cases r2 using Rep.strE with
    | str u =>
    have := EqAt.str_str (A := A) (s := s) x t x u
    rw [beq_self_eq_true] at this; exact this
  | bytes b => cases hg
  | ty n => cases hg
  | tup ds => cases hg
  | lst ds => cases hg
  | raw v => cases hg
theorem eqAt_self {s : Shared} (n : Nat) : ∀ (d : D) (v1 v2 : Value) (A : Around), A.units + n < cLine → d.good n = true → Rep s.heap v1 d → Rep s.heap v2 d → EqAt A s v1 v2 true := by
  induction n with
  | zero => intro d v1 v2 A hu hg r1 r2; exact eqAt_flat hg r1 r2
  | succ n ih =>
    intro d v1 v2 A hu hg r1 r2
    have hu' : A.units < cLine := Nat.lt_of_le_of_lt (Nat.le_add_right _ _) hu
    have hu1 : A.in1.units + n < cLine := by
      show A.units + 1 + n < cLine
      rw [Nat.add_assoc, Nat.add_comm 1 n]; exact hu
    cases d with
    | lst ds =>
      cases r1 with
      | @lst a us _ p1 q1 =>
      cases r2 with
      | @lst b ws _ p2 q2 =>
      by_cases hab : a = b
      · subst hab; exact EqAt.same _
      · have := RcAt.lists (e := fun _ => true) p1.isList p2.isList (by rw [size_of_repL q1, size_of_repL q2]) (A := A) hu' fun j h1 h2 => by
          obtain ⟨d, hd, hr1⟩ := repL_nth q1 h1
          obtain ⟨d', hd', hr2⟩ := repL_nth q2 h2
          rw [hd] at hd'; cases hd'
          exact ih d _ _ A.in1 hu1 (List.all_eq_true.mp hg d (List.mem_of_getElem? hd)) hr1 hr2
        rw [range_all_true] at this
        exact EqAt.of_refs hab this
    | tup ds =>
      cases r1 with
      | @tup a us _ p1 q1 =>
      cases r2 with
      | @tup b ws _ p2 q2 =>
      by_cases hab : a = b
      · subst hab; exact EqAt.same _
      · have := RcAt.tuples (e := fun _ => true) p1.isTuple p2.isTuple (A := A) hu' fun j h1 h2 => by
          obtain ⟨d, hd, hr1⟩ := repL_nth q1 h1
          obtain ⟨d', hd', hr2⟩ := repL_nth q2 h2
          rw [hd] at hd'; cases hd'
          exact ih d _ _ A.in1 hu1 (List.all_eq_true.mp hg d (List.mem_of_getElem? hd)) hr1 hr2
        rw [range_all_true, size_of_repL q1, size_of_repL q2, beq_self_eq_true, Bool.and_self] at this
        exact EqAt.of_refs hab this
    | none => exact eqAt_flat rfl r1 r2
    | bool b => exact eqAt_flat rfl r1 r2
    | int i => exact eqAt_flat rfl r1 r2
    | str x => exact eqAt_flat rfl r1 r2
    | bytes b => cases hg
    | ty n => cases hg
    | raw v => cases hg
section
variable {prog : Program} {w : World} {A : Around} {env : Env} {h : Heap}
/-- nothing differs from its like -/
theorem cmp_ne_self {n : Nat} {d : D} (hu : A.units + n < cLine) (hg : d.good n = true) (ht : (match d with | .lst _ => true | .str _ => true | _ => false) = true) : Op prog w A (.cmp .NotEq) d d (.bool false) := ⟨fun s v1 v2 Q E r1 r2 c => by
  cases d with
  | str x =>
    cases r1 using Rep.strE with
    | str t =>
    cases r2 using Rep.strE with
    | str u =>
    have := RcNeAt.str_str (A := A) (s := s) x t x u prog w E Q
    rw [beq_self_eq_true] at this
    exact this (c _ _ (keeps_refl s) (.bool _))
  | lst ds =>
    cases n with
    | zero => cases hg
    | succ n =>
    cases r1 with
    | @lst a us _ p1 q1 =>
    cases r2 with
    | @lst b ws _ p2 q2 =>
    have := RcNeAt.lists (e := fun _ => true) p1.isList p2.isList (by rw [size_of_repL q1, size_of_repL q2]) (A := A) (Nat.lt_of_le_of_lt (Nat.le_add_right _ _) hu) (fun j h1 h2 => by
        obtain ⟨d, hd, hr1⟩ := repL_nth q1 h1
        obtain ⟨d', hd', hr2⟩ := repL_nth q2 h2
        rw [hd] at hd'; cases hd'
        exact eqAt_self n d _ _ A.in1 (by show A.units + 1 + n < cLine; rw [Nat.add_assoc, Nat.add_comm 1 n]; exact hu) (List.all_eq_true.mp hg d (List.mem_of_getElem? hd)) hr1 hr2) prog w E Q
    rw [range_all_true] at this
    exact this (c _ _ (keeps_refl s) (.bool _))
  | _ => cases ht⟩
theorem cmp_eq_ints {xs ys : List Int} (hu : A.units < cLine) : Op prog w A (.cmp .Eq) (.lst (xs.map .int)) (.lst (ys.map .int)) (.bool (xs == ys)) := ⟨fun s v1 v2 Q E r1 r2 c => by
  cases r1 with
  | @lst a us _ p1 q1 =>
  cases r2 with
  | @lst b ws _ p2 q2 =>
  have e1 := size_of_repL q1
  have e2 := size_of_repL q2
  rw [List.length_map] at e1 e2
  by_cases hl : xs.length = ys.length
  · have := eq_listAt (prog := prog) (w := w) (E := E) (Q := Q) (e := fun j => xs[j]? == ys[j]?) p1.isList p2.isList (by omega) (A := A) hu (fun j h1 h2 => by
      obtain ⟨d, hd, hr1⟩ := repL_nth q1 h1
      obtain ⟨d', hd', hr2⟩ := repL_nth q2 h2
      rw [List.getElem?_map] at hd hd'
      cases hx : xs[j]? with
      | none => rw [hx] at hd; cases hd
      | some x =>
      cases hy : ys[j]? with
      | none => rw [hy] at hd'; cases hd'
      | some y =>
        rw [hx] at hd; rw [hy] at hd'
        cases hd; cases hd'
        have hb : (some x == some y) = (x == y) := by simp
        rw [hb]
        generalize us[j] = u1 at hr1 ⊢
        generalize ws[j] = u2 at hr2 ⊢
        cases hr1 with
        | int _ t1 =>
        cases hr2 with
        | int _ t2 =>
        exact EqAt.int_int (A := A.in1) (s := s) x t1 y t2)
    refine this ?_
    have hq : (List.range us.size).all (fun j => xs[j]? == ys[j]?) = (xs == ys) := by
      rw [Bool.eq_iff_iff, List.all_eq_true, beq_iff_eq]
      constructor
      · intro hh
        apply List.ext_getElem? 
        intro j
        by_cases hj : j < us.size
        · have := hh j (List.mem_range.mpr hj); simpa using this
        · rw [List.getElem?_eq_none (by omega), List.getElem?_eq_none (by omega)]
      · rintro rfl; intro j _; simp
    rw [hq]
    exact c _ _ (keeps_refl s) (.bool _)
  · refine eq_list_lengthsAt p1.isList p2.isList (by simp; omega) hu ?_
    have : (xs == ys) = false := by
      rw [Bool.eq_false_iff]; intro hh; exact hl (by rw [beq_iff_eq.mp hh])
    rw [this] at c
    exact c _ _ (keeps_refl s) (.bool _)⟩
end
end Mine

end
noncomputable section
open PySem PySem.Calls PySem.W PyProof.Rows
set_option maxRecDepth 100000
set_option maxHeartbeats 1000000
namespace Mine
section
variable {prog : Program} {w : World} {A : Around} {env : Env} {s₀ s : Shared} {vars : Vars} {own : Own} {Q : Flow → Shared → Prop} {E : Value → Shared → Prop} {rest : List Stmt}
theorem plain_set {h : Heap} {l : Addr} {items : Array Value} {j : Nat} {v : Value} (hl : h.PlainList l items) (hj : j < items.size) : (h.update l (Obj.mapSeq (·.setIfInBounds j v))).PlainList l (items.setIfInBounds j v) := by
  obtain ⟨n, e⟩ := hl
  refine ⟨n, ?_⟩
  have := Heap.get?_update_self (Obj.mapSeq (·.setIfInBounds j v)) e (by simp [Obj.mapSeq, Obj.isFreed])
  rw [this]
  simp [Obj.mapSeq]
theorem set_plain {l : Addr} {items : Array Value} {k : Int} {t : Tok} {v : Value} {Q : Unit → Shared → Prop} {E : Value → Shared → Prop} (hl : s.heap.PlainList l items)
    (h0 : 0 ≤ k) (hfit : k < 2 ^ 63) (hn : k < items.size)
    (hQ : ∀ h', h'.PlainList l (items.setIfInBounds k.toNat v) → Heap.SameBut l s.heap h' → Q () { s with heap := h' }) :
    wpAny (model prog w) A (setItem (.ref l) (.int k t) v) Q E s := by
  obtain ⟨o, ho, hc, ne, hd⟩ := hl.isList
  unfold setItem
  try with_reducible refine wpAny_holding ?_
  first | refine wpAny_bind (wpAny_pure ?_) | skip
  refine wpAny_bind (wpAny_sequenceKey hl.isList.typeIs (by decide) ?_)
  refine wpAny_bind (wpAny_callSpecial?_slot (name := Str.ofString "__setitem__") hl.isList.typeIs slot_list_setitem
    (wpAny_call_entry slot_list_setitem hl.isList.typeIs entry_list_setitem ?_ (args_list_setitem _ _ _)))
  show wpAny _ _ (Builtin.List.listSubscript? (.int k t) >>= _) _ _ s
  refine wpAny_bind (wpAny_listSubscript_int (fitsIndex_of h0 hfit) ?_)
  clear hfit
  obtain ⟨j, rfl⟩ := Int.eq_ofNat_of_zero_le h0
  have hj : j < items.size := by omega
  have hx' : items[j]? = some items[j] := Array.getElem?_eq_getElem hj
  show wpAny _ _ ((seqItemAt l j >>= fun r => pure (r.map (j, ·))) >>= _) _ _ s
  refine wpAny_bind (wpAny_bind (wpAny_seqItemAt ho hd (wpAny_pure ?_)))
  rw [hx']
  show wpAny _ _ (setSeqItemAt l j v >>= _) _ _ s
  refine wpAny_bind (wpAny_setSeqItemAt ho hd ?_)
  first
    | exact wpAny_bind (wpAny_pure (wpAny_pure ⟨.none, rfl, wpAny_pure (hQ _ (plain_set hl hj) (Heap.SameBut.update ..))⟩))
    | exact wpAny_pure ⟨.none, rfl, wpAny_pure (hQ _ (plain_set hl hj) (Heap.SameBut.update ..))⟩
theorem repL_setIf {g : Heap} {vs : Array Value} {ds : List D} (r : RepL g vs.toList ds) {v : Value} {d : D} (hv : Rep g v d) (j : Nat) : RepL g (vs.setIfInBounds j v).toList (ds.set j d) := by
  rw [Array.toList_setIfInBounds]
  exact r.set hv j
/-- own[k] = e -/
theorem ex_setitem {x : Str} {ds : List D} {d : D} {e i : Expr} {k : Int} {p sp pos : Pos} (F : FS env s₀ s vars (some (x, .lst ds))) (he : EvB prog w A env s₀.heap s.heap e d) (hi : Ev prog w A env s.heap i (.int k)) (h0 : 0 ≤ k) (hk : k < ds.length) (hz : ds.length ≤ sizeLine)
    (c : ∀ s', FS env s₀ s' (stab vars) (some (x, .lst (ds.set k.toNat d))) → wpAny (model prog w) A (execs rest env) Q E s')
    (hkf : env.scope.kind = .function := by rfl) (hd : (x == ("__debug__" : Str)) = false := by decide) (hn : (x == ("__classdict__" : Str)) = false := by decide)
    (hs : swapsWith e (some (.Subscript (.Name x p) i sp)) pos.line env = pure false := by rfl) :
    wpAny (model prog w) A (execs (.Assign [.Subscript (.Name x p) i sp] e pos :: rest) env) Q E s := by
  obtain ⟨a, l, fr, us, ⟨n, hp⟩, r⟩ := F.own x _ rfl
  have l : LookV env s.heap x (.ref a) := l
  refine wpAny_execs_cons (wpAny_Assign_Subscript (he.run s _ E (stays_refl _) fun v s1 k1 r1 r1b => wpAny_Name (load_of_look hkf (l.stays (keeps_stays k1)) (hi.run s1 _ E (keeps_stays k1) fun vi s2 k2 ri => ?_) hn) hd) hs)
  cases ri using Rep.intE with
  | int t =>
  have k12 := keeps_trans k1 k2
  have pl2 : s2.heap.PlainList a us := ⟨n, keeps_stays k12 _ _ hp⟩
  have hsz := size_of_repL r
  refine set_plain pl2 h0 (by rw [sizeLine_eq] at hz; omega) (by rw [hsz]; exact hk) fun h' pl' hs' => ?_
  exact c _ ((F.step k12).own_change (tk := s2.toks) (l.stays (keeps_stays k12)) fr pl2 hs' pl' (repL_setIf r r1b _))
/-- x = y = e -/
theorem ex_two {x y : Str} {e : Expr} {p q pos : Pos} {d : D} (F : FS env s₀ s vars own) (he : Ev prog w A env s.heap e d) (hfl : d.flat = true) (c : ∀ s', FS env s₀ s' ((y, (true, d)) :: (x, (true, d)) :: vars) own → wpAny (model prog w) A (execs rest env) Q E s')
    (hst : (storable env x && storable env y) = true := by rfl) (hno : (notOwn own x && notOwn own y) = true := by rfl) (hw : swappedStores [.Name x p, .Name y q] e env = pure none := by rfl) : wpAny (model prog w) A (execs (.Assign [.Name x p, .Name y q] e pos :: rest) env) Q E s := by
  rw [Bool.and_eq_true] at hst hno
  refine wpAny_execs_cons (wpAny_Assign_two (he.run s _ E (stays_refl _) fun v s1 k1 r1 => wpAny_assign_Name (st_store (F.step k1) r1 (fun _ => r1.anyHeap hfl) (storable_of hst.1).1 (storable_of hst.1).2 (notOwn_of hno.1) fun s2 F2 =>
    wpAny_assign_Name (st_store F2 (r1.anyHeap hfl) (fun _ => r1.anyHeap hfl) (storable_of hst.2).1 (storable_of hst.2).2 (notOwn_of hno.2) c))) rfl hw)
end
end Mine

end
noncomputable section
open PySem PySem.Calls PySem.W PyProof.Rows
set_option maxRecDepth 100000
set_option maxHeartbeats 1000000
namespace Mine
section
variable {prog : Program} {w : World}
theorem EvFL.as {A : Around} {env : Env} {h : Heap} {e : Expr} {d d' : List D} (x : EvFL prog w A env h e d) (q : d = d') : EvFL prog w A env h e d' := q ▸ x
theorem flat_int {ns : List Int} : ∀ d ∈ ns.map D.int, d.flat = true := by
  intro d hd; obtain ⟨i, _, rfl⟩ := List.mem_map.mp hd; rfl
theorem loc1 {P : Prop} {scope : Scope} {x : Str} {d : D} (h : scope.names.lookup x = some .local) : ∀ p ∈ [(x, d)], scope.names.lookup p.1 = some .local := fun p hp => by
  simp only [List.mem_cons, List.not_mem_nil, or_false] at hp
  subst hp; exact h
theorem loc2 {scope : Scope} {x y : Str} {d e : D} (h : scope.names.lookup x = some .local) (h' : scope.names.lookup y = some .local) : ∀ p ∈ [(x, d), (y, e)], scope.names.lookup p.1 = some .local := fun p hp => by
  simp only [List.mem_cons, List.not_mem_nil, or_false] at hp
  rcases hp with rfl | rfl
  · exact h
  · exact h'
theorem pow_bits {b k : Nat} (hb : b ≤ 256) (hk : k ≤ 1000) : (Builtin.Int.intBits (b : Int) : Int) * (k : Int) ≤ 2 ^ 27 := by
  have h1 : Builtin.Int.intBits (b : Int) ≤ 9 := bits_le (k := 9) (by have : (b : Int).natAbs = b := rfl; rw [this]; omega)
  have h2 : (Builtin.Int.intBits (b : Int) : Int) ≤ 9 := by omega
  calc (Builtin.Int.intBits (b : Int) : Int) * (k : Int) ≤ 9 * 1000 := Int.mul_le_mul h2 (by omega) (by omega) (by decide)
    _ ≤ 2 ^ 27 := by decide
theorem pow_log {b k : Nat} (hb0 : 1 ≤ b) (hb : b ≤ 256) (hk : k ≤ 1000) : ((b : Int) ^ k).natAbs.log2 < 9000 := by
  have h : (((b : Int) ^ k)).natAbs = b ^ k := by rw [Int.natAbs_pow]; rfl
  rw [h]
  have h1 : b ^ k ≤ 256 ^ k := Nat.pow_le_pow_left hb k
  have h2 : 256 ^ k = 2 ^ (8 * k) := by rw [Nat.pow_mul]
  have h3 : b ^ k < 2 ^ (8 * k + 1) := by
    rw [Nat.pow_succ]
    have := Nat.pow_pos (n := 8 * k) (show 0 < 2 by decide)
    omega
  have h4 : b ^ k ≠ 0 := Nat.ne_of_gt (Nat.pow_pos hb0)
  have := (Nat.log2_lt h4).mpr h3
  omega
end
end Mine

end
noncomputable section
open PySem PySem.Calls PySem.W PyProof.Rows
set_option maxRecDepth 100000
set_option maxHeartbeats 1000000
namespace Mine
open PySem.Builtin
theorem road_ascii {id : String} {b : Array UInt8} : _codecs.decodeRoad id b (PySem.Str.ofString "ascii") none [] = (_codecs.runDecoder id _codecs.asciiDecoder none true b 0 [] >>= fun r => mkStr ⟨r.1⟩) := by kernel_rfl
theorem entry_dec {c : UInt8} {cs : List UInt8} {t u : Tok} : «bytes.decode» ⟨[.bytes (c :: cs).toArray t, .str (PySem.Str.ofString "ascii") u], []⟩ = (mkStr (PySem.Str.ofString "utf-8") >>= fun _ => mkStr (PySem.Str.ofString "ascii") >>= fun e => mkStr (PySem.Str.ofString "bytes.decode") >>= fun d =>
    call (.builtin "_codecs.decode.text") [.bytes (c :: cs).toArray t, e, .none, d] >>= fun v => ret v) := by kernel_rfl
theorem entry_dec0 {t u : Tok} : «bytes.decode» ⟨[.bytes #[] t, .str (PySem.Str.ofString "ascii") u], []⟩ = (rule "bytes.decode.empty" >>= fun _ => retStr Str.empty) := by kernel_rfl
theorem args_dec (a b : Value) : argsOk "bytes.decode" ⟨[a, b], []⟩ := by unfold argsOk; kernel_rfl
theorem forIn_steps {σ : Type} {f : Nat → σ → Sem (ForInStep σ)} (St : Nat → σ) (n : Nat) (h : ∀ i x, i < n → f x (St i) = pure (ForInStep.yield (St (i + 1)))) : ∀ (l : List Nat) (i : Nat), i + l.length = n → (forIn l (St i) f : Sem σ) = pure (St n)
  | [], i, e => by rw [List.forIn_nil]; have : i = n := by simpa using e
                   rw [this]
  | x :: l, i, e => by
    rw [List.forIn_cons, h i x (by simp at e; omega)]
    show (forIn l (St (i + 1)) f : Sem σ) = _
    exact forIn_steps St n h l (i + 1) (by simp at e ⊢; omega)
theorem run_ascii {id : String} {b : Array UInt8} (ha : ∀ c ∈ b.toList, c.toNat < 128) (hz : b.size ≤ sizeLine) :
    _codecs.runDecoder id _codecs.asciiDecoder none true b 0 [] = pure (b.map (·.toNat), b.size) := by
  unfold _codecs.runDecoder
  simp only [Std.Legacy.Range.forIn_eq_forIn_range', Std.Legacy.Range.size]
  have e0 : ((0, (#[] : Array Nat), ({} : _codecs.Faults)) : Nat × Array Nat × _codecs.Faults) = (0, (List.take 0 (b.map (·.toNat)).toList).toArray, {}) := by simp
  rw [e0]
  have e1 : (List.take b.size (b.map (·.toNat)).toList).toArray = b.map (·.toNat) := by rw [List.take_of_length_le (by simp)]
  refine (congrArg (· >>= fun s => pure (s.snd.fst, s.fst)) (forIn_steps (σ := Nat × Array Nat × _codecs.Faults) (fun i => (i, ((b.map (·.toNat)).toList.take i).toArray, {})) b.size (fun i x hi => ?_) (List.range' 0 ((b.size - 0 + 1 - 1) / 1)) 0 (by simp))).trans ?_
  rotate_left
  · show (pure ((List.take b.size (b.map (·.toNat)).toList).toArray, b.size) : Sem (Array Nat × Nat)) = _
    rw [e1]
  · have h1 : ¬ ((((b.map (·.toNat)).toList.take i).toArray).size > sizeLine) := by simp; omega
    have h2 : ¬ (i ≥ b.size) := by omega
    simp only [h1, h2, if_false]
    have hg : b.getD i 0 = b[i] := by simp [hi]
    have hlt : (b.getD i 0).toNat < 128 := by rw [hg]; exact ha _ (by simp)
    have hf : _codecs.asciiDecoder.find true b i = _codecs.Found.text [(b.getD i 0).toNat] (i + 1) := by
      show (if (b.getD i 0).toNat < 128 then _ else _) = _
      rw [if_pos hlt]; rfl
    rw [hf]
    simp only
    congr 2
    rw [hg, List.take_add_one]
    simp [hi]
end Mine

end
noncomputable section
open PySem PySem.Calls PySem.W PyProof.Rows
set_option maxRecDepth 100000
set_option maxHeartbeats 1000000
namespace Mine
open PySem.Builtin
section
variable {prog : Program} {w : World} {A : Around} {env : Env} {h : Heap}
/-- octets as signs -/
noncomputable def asText (b : Array UInt8) : Str := ⟨b.map (·.toNat)⟩
theorem meets_text2 {b : Array UInt8} {t t1 t2 : Tok} {d : PySem.Str} (ha : ∀ c ∈ b.toList, c.toNat < 128) (hz : b.size ≤ sizeLine) :
    Meets («_codecs.decode.text» ⟨[.bytes b t, .str (PySem.Str.ofString "ascii") t1, .none, .str d t2], []⟩) (fun _ R s => R (.ok (.ret (.str (asText b) s.toks))) { s with toks := s.toks + 1 }) := by
  refine .of_wp fun prog w A R s h => ?_
  show wpAny _ _ (Bytes.bytesLike _ (.bytes b t) >>= fun r => _) _ _ s
  refine wpAny_bind (wpAny_of_eq KBd.like_eq ?_)
  refine wpAny_bind (wpAny_of_eq KBd.held_eq ?_)
  show wpAny _ _ (_codecs.decodeRoad _ b (PySem.Str.ofString "ascii") none [] >>= fun v => _) _ _ s
  rw [road_ascii, run_ascii ha hz]
  refine wpAny_bind (wpAny_bind (wpAny_pure ?_))
  exact wpAny_mkStr (wpAny_pure ⟨_, rfl, h⟩) (by show (b.map (·.toNat)).size ≤ sizeLine; rw [Array.size_map]; exact hz)
theorem meth_decode {b : Array UInt8} : Meth prog w A (.bytes b) "decode" "bytes.decode" := ⟨fun s v pl Q E r hq => by
  (first | cases r using Rep.intE | cases r using Rep.strE | cases r using Rep.bytesE | cases r using Rep.lstE | cases r using Rep.tupE | cases r using Rep.boolE | cases r using Rep.tyE | cases r using Rep.noneE | cases r)
  with_reducible exact KBd.method hq⟩
theorem call_decode {b : Array UInt8} (ha : ∀ c ∈ b.toList, c.toNat < 128) (hz : b.size ≤ sizeLine) : CallD prog w A h (.builtin "bytes.decode") [.bytes b, .str (PySem.Str.ofString "ascii")] (.str (asText b)) := ⟨fun s vs Q E q r c => by
  obtain ⟨v, u, rfl, r1, r2⟩ := r.inv2
  cases r1 using Rep.bytesE with
  | bytes t1 =>
  cases r2 using Rep.strE with
  | str t2 =>
  refine wpAny_call_entry FB.slot_bytes_decode (typeIs_bytes _ _ _) FB.entry_bytes_decode ?_ (args_dec _ _)
  obtain ⟨l⟩ := b
  cases l with
  | nil =>
    show wpAny _ _ («bytes.decode» ⟨[.bytes #[] t1, .str (PySem.Str.ofString "ascii") t2], []⟩) _ _ s
    rw [entry_dec0]
    refine wpAny_bind (wpAny_rule ?_)
    show wpAny _ _ (mkStr Str.empty >>= fun v => ret v) _ _ s
    have he : asText (Array.mk []) = Str.empty := by simp [asText, Str.empty]
    rw [he] at c
    exact wpAny_bind (wpAny_mkStr (wpAny_pure ⟨_, rfl, c _ _ (keeps_tok s _) (.str _ _)⟩) (by decide))
  | cons c0 cs =>
    show wpAny _ _ («bytes.decode» ⟨[.bytes (c0 :: cs).toArray t1, .str (PySem.Str.ofString "ascii") t2], []⟩) _ _ s
    rw [entry_dec]
    refine wpAny_bind (wpAny_mkStr ?_ (by decide))
    refine wpAny_bind (wpAny_mkStr ?_ (by decide))
    refine wpAny_bind (wpAny_mkStr ?_ (by decide))
    refine wpAny_bind (call_function_meets KBd.kind_text KBd.plain_text KBd.entry_text (KBd.args_text _ _ _ _) (meets_text2 ha hz) (wpAny_pure ⟨_, rfl, ?_⟩))
    exact c _ _ ⟨s.heap, _, rfl, fun _ _ e => e⟩ (.str _ _)⟩
end
end Mine

end
noncomputable section
open PySem PySem.Calls PySem.W PyProof.Rows
set_option maxRecDepth 100000
set_option maxHeartbeats 1000000
namespace Mine
theorem none_stays {g h : Heap} (k : g.StaysIn h) {a : Addr} (e : h.get? a = none) : g.get? a = none := by
  cases q : g.get? a with
  | none => rfl
  | some o => have := k a o q; rw [e] at this; cases this
theorem newExc_after {s s1 : Shared} {h' : Heap} {e : Addr} {X : String} (k : Keeps s s1) (x : Heap.NewExc s1.heap h' e X) : Heap.NewExc s.heap h' e X :=
  ⟨fun b o q => x.keeps b o (keeps_stays k b o q), none_stays (keeps_stays k) x.new, x.there⟩
theorem keeps_exc {s : Shared} {h' : Heap} {tk : Nat} {e : Addr} {X : String} (x : Heap.NewExc s.heap h' e X) : Keeps s { s with heap := h', toks := tk } := ⟨h', tk, rfl, x.keeps⟩
/-- a new exception leaves the frame -/
theorem leave_new {M : Model} {A : Around} {s' : Shared} {g h : Heap} {env : Env} {outer : List Env} {L e : Addr} {X : String} {Q : Unit → Shared → Prop} {E : Value → Shared → Prop}
    (hfr : A.frames = some (env :: outer)) (hf : env.frame = some L) (hkb : g.StaysIn h) (hl : h.FunFrames g (env :: outer)) (hx : Heap.NewExc h s'.heap e X)
    (hQ : ∀ h' a0, Heap.FlyingW g outer e (.type X) a0 h' → h.UpToSlots h' → Q () { s' with heap := h' }) : wpAny M A (leaving env (.ref e)) Q E s' := by
  obtain ⟨ob, tp, he, hcls, hd⟩ := hx.there
  refine wpAny_leaving_firstW (a0 := tp) hfr (hl.of_keeps fun b o hb _ => ⟨o, hx.keeps b o hb, rfl⟩) hf he (fun b o hb => hx.keeps b o (hkb b o hb)) (none_stays hkb hx.new) hd rfl rfl fun h' hL => ?_
  obtain ⟨k1, ⟨_, _, k2⟩, k3, k4⟩ := hL
  exact hQ h' tp ⟨k1, none_stays hkb hx.new, k2, by rw [← hcls]; exact k3⟩ ((Heap.UpToSlots.of_keeps hx.keeps).trans k4)
section
variable {prog : Program} {w : World} {A : Around} {env : Env} {h h₀ : Heap}
/-- expressions that raise -/
structure EvX (prog : Program) (w : World) (A : Around) (env : Env) (h : Heap) (e : Expr) (X : String) : Prop where
  run : ∀ (s : Shared) (Q : Value → Shared → Prop) (E : Value → Shared → Prop), h.StaysIn s.heap → (∀ a s', Keeps s s' → Heap.NewExc s.heap s'.heap a X → E (.ref a) s') → wpAny (model prog w) A (eval e env) Q E s
structure TrX (prog : Program) (w : World) (A : Around) (env : Env) (h : Heap) (e : Expr) (X : String) : Prop where
  run : ∀ (s : Shared) (Q : Bool → Shared → Prop) (E : Value → Shared → Prop), h.StaysIn s.heap → (∀ a s', Keeps s s' → Heap.NewExc s.heap s'.heap a X → E (.ref a) s') → wpAny (model prog w) A (isTrue e env (eval e env)) Q E s
theorem evx_item_str0 {value slice : Expr} {pos : Pos} {k : Int} {x : Str} (hA : A.handled = none) (hv : Ev prog w A env h value (.str x)) (hs : Ev prog w A env h slice (.int k)) (h0 : 0 ≤ k) (hk : k < 2 ^ 62) (hx : x.length ≤ k.toNat) : EvX prog w A env h (.Subscript value slice pos) "IndexError" :=
  ⟨fun s Q E q c => Subscript_ (hv.run s _ E q fun v1 s1 k1 r1 => hs.run s1 _ E (stays_trans q (keeps_stays k1)) fun v2 s2 k2 r2 => by
    (first | cases r1 using Rep.intE | cases r1 using Rep.strE | cases r1 using Rep.bytesE | cases r1 using Rep.lstE | cases r1 using Rep.tupE | cases r1 using Rep.boolE | cases r1 using Rep.tyE | cases r1 using Rep.noneE | cases r1); (first | cases r2 using Rep.intE | cases r2 using Rep.strE | cases r2 using Rep.bytesE | cases r2 using Rep.lstE | cases r2 using Rep.tupE | cases r2 using Rep.boolE | cases r2 using Rep.tyE | cases r2 using Rep.noneE | cases r2)
    have k12 := keeps_trans k1 k2
    refine sub_tail (typeIs_str _ _ _) F.slot_str_getitem.lookup ?_
    refine getItem_slot (typeIs_str _ _ _) (by decide) slot_str_getitem (wpAny_call_entry slot_str_getitem (typeIs_str _ _ _) entry_str_getitem ?_ (args_str_getitem _ _))
    show wpAny _ _ (if (decide (k < -(2 ^ 63 : Int)) || decide (k ≥ 2 ^ 63)) = true then _ else
          match (seqIndex? k x.length).bind (x.cps[·]?) with
          | some c => retStr ⟨#[c]⟩
          | none => _) _ _ s2
    have hr : (decide (k < -(2 ^ 63 : Int)) || decide (k ≥ 2 ^ 63)) = false := by simp; omega
    have hc : (seqIndex? k x.length).bind (x.cps[·]?) = none := by
      have : seqIndex? k x.length = none := by
        unfold seqIndex?
        simp [show ¬ k < 0 from by omega]
        intro; omega
      rw [this]; rfl
    rw [hr, hc]
    refine wpAny_bind (wpAny_rule ?_)
    exact_raiseError plainExc_IndexError hA fun h' tk e hx => c e _ (keeps_trans k12 (keeps_exc hx)) (newExc_after k12 hx))⟩
theorem trx_cmp {l r : Expr} {op : CmpOp} {pos : Pos} {X : String} (hl : EvX prog w A env h l X) (hm : behindInMarks op r = false := by with_unfolding_all rfl) : TrX prog w A env h (.Compare l [op] [r] pos) X :=
  ⟨fun s Q E q c => wpAny_isTrue_Compare1 (hl.run s _ E q c) hm⟩
theorem trx_and {e : Expr} {rest : List Expr} {pos : Pos} {X : String} (x : TrX prog w A env h e X) : TrX prog w A env h (.BoolOp .And (e :: rest) pos) X := ⟨fun s Q E q c => isTrue_and (x.run s _ E q c)⟩
theorem ex_ifX {s : Shared} {t : Expr} {body orelse rest : List Stmt} {pos : Pos} {X : String} {Q : Flow → Shared → Prop} {E : Value → Shared → Prop} (ht : TrX prog w A env s.heap t X)
    (c : ∀ a s', Keeps s s' → Heap.NewExc s.heap s'.heap a X → E (.ref a) s') : wpAny (model prog w) A (execs (.If t body orelse pos :: rest) env) Q E s :=
  wpAny_execs_cons (wpAny_If (ht.run s _ E (stays_refl _) c))
end
end Mine

end
noncomputable section
open PySem PySem.Calls PySem.W PyProof.Rows
set_option maxRecDepth 100000
set_option maxHeartbeats 1000000
namespace Mine
section
variable {prog : Program} {w : World} {A : Around} {env : Env} {s₀ s : Shared} {vars : Vars} {own : Own} {Q : Flow → Shared → Prop} {E : Value → Shared → Prop} {rest : List Stmt}
/-- x, y = a list of two -/
theorem ex_unpack2 {x y : Str} {e : Expr} {p q tp pos : Pos} {k : Nat} {d1 d2 : D} (hh : A.handled = none) (F : FS env s₀ s vars own) (he : Ev prog w A env s.heap e (.lst [d1, d2]))
    (c : ∀ s', FS env s₀ s' ((y, (d2.flat, d2)) :: (x, (d1.flat, d1)) :: vars) own → wpAny (model prog w) A (execs rest env) Q E s')
    (hst : (storable env x && storable env y) = true := by rfl) (hno : (notOwn own x && notOwn own y) = true := by rfl)
    (hs : swapsWithSole [.Tuple [.Name x p, .Name y q] k tp] e pos.line env = pure false := by rfl)
    (hw : swappedStores [.Tuple [.Name x p, .Name y q] k tp] e env = pure none := by rfl) : wpAny (model prog w) A (execs (.Assign [.Tuple [.Name x p, .Name y q] k tp] e pos :: rest) env) Q E s := by
  rw [Bool.and_eq_true] at hst hno
  refine wpAny_execs_cons (Assign_Tuple (he.run s _ E (stays_refl _) fun v s1 kk r1 => ?_) hs hw)
  cases r1 with
  | @lst a vs _ pl rl =>
  obtain ⟨v1, v2, e, r1, r2⟩ := rl.inv2
  have hvs : vs.size = 2 := by have := size_of_repL rl; exact this
  rw [assign_Tuple]
  refine wpAny_bind (wpAny_standAt ?_)
  unfold unpack
  have hn : (assignEach [.Name x p, .Name y q] env).length = vs.size := by rw [hvs]; rfl
  have hstar : (assignEach [.Name x p, .Name y q] env).findIdx? (·.1) = none := rfl
  rw [hn, hstar]
  refine wpAny_bind (wpAny_holding (kun_itemsOf hh pl.isList fun h' hx => ?_))
  rw [e]
  have st : s1.heap.StaysIn h' := fun a o q => hx a o (Nat.ne_of_lt (Heap.lt_size q)) q
  have F1 := (F.step kk).step (keeps_heap st)
  show wpAny _ _ (do holding [v2] (assign (.Name x p) env v1); do holding [] (assign (.Name y q) env v2); pure ()) _ _ _
  refine wpAny_bind (wpAny_holding (wpAny_assign_Name (st_store2 F1 (r1.stays st) (fun f => r1.anyHeap f) (storable_of hst.1).1 (storable_of hst.1).2 (notOwn_of hno.1) fun s2 sq _ F2 => ?_)))
  refine wpAny_bind (wpAny_holding (wpAny_assign_Name (st_store F2 ((r2.stays st).mono sq) (fun f => r2.anyHeap f) (storable_of hst.2).1 (storable_of hst.2).2 (notOwn_of hno.2) fun s3 F3 => ?_)))
  exact wpAny_pure (c s3 F3)
theorem draw_short {it l : Addr} {v : Value} (hh : A.handled = none) (hne : l ≠ it) {Q : List Value → Shared → Prop} (hit : s.heap.IsListIter it l 0) (hl : s.heap.IsList l #[v])
    (hQ : ∀ h', Heap.ExtBut it s.heap h' → Q [v] { s with heap := h' }) : wpAny (model prog w) A (draw (.ref it) 2) Q E s := by
  show wpAny _ _ (pyNext (.ref it) >>= _) Q E s
  refine wpAny_bind (wpAny_pyNext_list_item hit hl (x := v) (by simp) fun h₁ hit₁ hs₁ => ?_)
  refine wpAny_bind (wpAny_holding ?_)
  show wpAny _ _ (pyNext (.ref it) >>= _) _ E _
  have hl₁ : h₁.IsList l #[v] := hl.extBut hs₁.extBut hne
  refine wpAny_bind (wpAny_pyNext_list_end hh hit₁ hl₁ (by simp) fun h₂ he₂ => ?_)
  exact wpAny_pure (wpAny_pure (hQ h₂ fun b o hb e => he₂ b o hb (hs₁.extBut b o hb e)))
/-- x, y = a list of one -/
theorem ex_unpack2X {x y : Str} {e : Expr} {p q tp pos : Pos} {k : Nat} {d1 : D} (hh : A.handled = none) (he : Ev prog w A env s.heap e (.lst [d1]))
    (c : ∀ a s', Keeps s s' → Heap.NewExc s.heap s'.heap a "ValueError" → E (.ref a) s')
    (hs : swapsWithSole [.Tuple [.Name x p, .Name y q] k tp] e pos.line env = pure false := by rfl)
    (hw : swappedStores [.Tuple [.Name x p, .Name y q] k tp] e env = pure none := by rfl) : wpAny (model prog w) A (execs (.Assign [.Tuple [.Name x p, .Name y q] k tp] e pos :: rest) env) Q E s := by
  refine wpAny_execs_cons (Assign_Tuple (he.run s _ E (stays_refl _) fun v s1 kk r1 => ?_) hs hw)
  cases r1 with
  | @lst a vs _ pl rl =>
  obtain ⟨v1, e, r1⟩ := rl.inv1
  have hvs : vs = #[v1] := by rw [← Array.toArray_toList (xs := vs), e]
  subst hvs
  rw [assign_Tuple]
  refine wpAny_bind (wpAny_standAt ?_)
  unfold unpack
  have hn : (assignEach [.Name x p, .Name y q] env).length = 2 := rfl
  have hstar : (assignEach [.Name x p, .Name y q] env).findIdx? (·.1) = none := rfl
  rw [hn, hstar]
  refine wpAny_bind (wpAny_holding ?_)
  have hl := pl.isList
  have hlt : a ≠ s1.heap.objs.size := by obtain ⟨o, ho, _⟩ := hl; exact Nat.ne_of_lt (Heap.lt_size ho)
  unfold unpackItems
  refine wpAny_bind ?_
  unfold notIterableAtAll
  refine wpAny_bind (wpAny_specialOf hl.typeIs slot_list_iter.lookup ?_)
  refine wpAny_pure ?_
  simp only [Bool.false_eq_true, if_false]
  refine wpAny_bind (wpAny_holding (wpAny_pyIter_list hl ?_))
  refine wpAny_bind (wpAny_holding (draw_short hh hlt ⟨_, Heap.get?_push_size _ rfl, rfl, rfl⟩ (hl.push _) fun h₁ he₁ => ?_))
  rw [if_pos (by simp)]
  refine wpAny_bind (wpAny_rule ?_)
  have st : s1.heap.StaysIn h₁ := fun b o q => he₁ b o (Nat.ne_of_lt (Heap.lt_size q)) (Heap.get?_push_of_some _ q)
  have k2 := keeps_trans kk (keeps_heap st)
  refine wpAny_bind ?_
  refine wpAny_raiseErrorMade plainExc_ValueError hh (fun h' tk e hx => c e _ (keeps_trans k2 (keeps_exc hx)) (newExc_after k2 hx)) ?_
  show (Str.ofString (toString "not enough values to unpack (expected " ++ toString (2 : Nat) ++ toString ", got " ++ toString (1 : Nat) ++ toString ")")).length ≤ sizeLine
  decide
end
end Mine

end
noncomputable section
open PySem PySem.Calls PySem.W PyProof.Rows
set_option maxRecDepth 100000
set_option maxHeartbeats 1000000
namespace Mine
/-- a dict's pairs: texts under texts -/
inductive SP : List (Str × Value) → List (Str × Str) → Prop
  | nil : SP [] []
  | cons (k : Str) (y : Str) (t : Tok) {kvs : List (Str × Value)} {ps : List (Str × Str)} : SP kvs ps → SP ((k, .str y t) :: kvs) ((k, y) :: ps)
theorem SP.length : ∀ {kvs ps}, SP kvs ps → kvs.length = ps.length
  | _, _, .nil => rfl
  | _, _, .cons _ _ _ r => by rw [List.length_cons, List.length_cons, r.length]
theorem SP.get : ∀ {kvs ps}, SP kvs ps → ∀ {i : Nat} {k y : Str}, ps[i]? = some (k, y) → ∃ t, kvs[i]? = some (k, .str y t)
  | _, _, .nil, i, k, y, e => by simp at e
  | _, _, .cons k' y' t r, 0, k, y, e => by simp at e; obtain ⟨rfl, rfl⟩ := e; exact ⟨t, rfl⟩
  | _, _, .cons k' y' t r, i + 1, k, y, e => by
    obtain ⟨t', h⟩ := r.get (i := i) (by simpa using e)
    exact ⟨t', by simpa using h⟩
theorem SP.append {k y : Str} {t : Tok} : ∀ {kvs ps}, SP kvs ps → SP (kvs ++ [(k, .str y t)]) (ps ++ [(k, y)])
  | _, _, .nil => .cons _ _ _ .nil
  | _, _, .cons _ _ _ r => .cons _ _ _ r.append
noncomputable def dput (ps : List (Str × Str)) (k v : Str) : List (Str × Str) :=
  if ps.any (fun p => p.1 = k) then ps.map (fun p => if p.1 = k then (p.1, v) else p) else ps ++ [(k, v)]
theorem SP.any {k : Str} : ∀ {kvs ps}, SP kvs ps → kvs.any (fun p => decide (p.1 = k)) = ps.any (fun p => decide (p.1 = k))
  | _, _, .nil => rfl
  | _, _, .cons _ _ _ r => by rw [List.any_cons, List.any_cons, r.any]
theorem SP.put {k v : Str} {t : Tok} : ∀ {kvs ps}, SP kvs ps → SP (kvs.map fun kv => if kv.1 = k then (kv.1, .str v t) else kv) (ps.map fun p => if p.1 = k then (p.1, v) else p)
  | _, _, .nil => .nil
  | _, _, .cons k' y' t' r => by
    rw [List.map_cons, List.map_cons]
    by_cases h : k' = k
    · rw [if_pos h, if_pos h]; exact .cons _ _ _ r.put
    · rw [if_neg h, if_neg h]; exact .cons _ _ _ r.put
theorem SP.stored {k v : Str} {t : Tok} {kvs : List (Str × Value)} {ps : List (Str × Str)} (r : SP kvs ps) : SP (stored kvs k (.str v t)) (dput ps k v) := by
  unfold PySem.stored dput
  rw [r.any]
  split
  · exact r.put
  · exact r.append
theorem dput_len (ps : List (Str × Str)) (k v : Str) : (dput ps k v).length ≤ ps.length + 1 := by
  unfold dput; split <;> simp
noncomputable def DS (prog : Program) (w : World) (o : Obj) (ps : List (Str × Str)) : Prop := ∃ kvs, o.IsDictOf (strKind prog w) kvs ∧ SP kvs ps
section
variable {prog : Program} {w : World} {A : Around} {env : Env} {s₀ s : Shared} {vars : Vars} {own : Own} {Q : Flow → Shared → Prop} {E : Value → Shared → Prop} {rest : List Stmt}
theorem ex_own_dict {x : Str} {p lp pos : Pos} (F : FS env s₀ s vars none) (hlow : sysModules < s.heap.objs.size) (hx : vars.lookup x = none) (c : ∀ s' o, DS prog w o [] → FS env s₀ s' vars (some (x, .obj o)) → wpAny (model prog w) A (execs rest env) Q E s')
    (hst : storable env x = true := by rfl) (hs : swapsWith (.Dict [] [] lp) (some (.Name x p)) pos.line env = pure false := by rfl) : wpAny (model prog w) A (execs (.Assign [.Name x p] (.Dict [] [] lp) pos :: rest) env) Q E s := by
  refine wpAny_execs_cons (wpAny_Assign_Name (wpAny_Dict_empty ?_) hs)
  have k1 := keeps_push s { cls := .type "dict", data := .dict #[] }
  have hd : DS prog w { cls := .type "dict", data := .dict #[] } [] := ⟨[], ⟨#[], 0, ⟨rfl, rfl, rfl⟩, rfl, fun _ he => by simp at he, Pairs.nil, List.nodup_nil⟩, .nil⟩
  have hne : s.heap.objs.size ≠ env.locals := by obtain ⟨m, hm⟩ := F.locs; exact Nat.ne_of_gt hm.lt
  refine st_store3 (d := .raw (.ref s.heap.objs.size)) (b := true) (F.step k1) (.raw _) (fun _ => .raw _) (storable_of hst).1 (storable_of hst).2 (fun ds q => by cases q) fun s' sq up l F' => c s' _ hd ?_
  refine { F' with vs := ⟨F'.vs.keep, fun y b d e => ?_⟩, own := fun y od e => ?_ }
  · refine F'.vs.get y b d ?_
    rw [lookup_cons_ne (by rintro rfl; rw [hx] at e; cases e)]
    exact e
  · cases e
    exact ⟨_, l, F.keep.fresh, ⟨hne, Nat.ne_of_gt hlow⟩, up _ _ (Heap.get?_push_size _ rfl) hne (fun u q => by cases q), #[], 0, rfl⟩
/-- the own dict changes -/
theorem FS.own_obj {x : Str} {o o' : Obj} {a : Addr} {h' : Heap} {tk : Nat} (F : FS env s₀ s vars (some (x, .obj o))) (l : LookV env s.heap x (.ref a)) (fr : s₀.heap.get? a = none) (ho : s.heap.get? a = some o) (hd : ∃ es ep, o.data = .dict es ep) (hLS : a ≠ env.locals ∧ a ≠ sysModules)
    (hs : Heap.SameBut a s.heap h') (ho' : h'.get? a = some o') (hd' : ∃ es ep, o'.data = .dict es ep) : FS env s₀ { s with heap := h', toks := tk } vars (some (x, .obj o')) := by
  have hL := hLS.1
  have sq : SeqSub s.heap h' := fun b q e ⟨xs, n, hq⟩ => (hs.2 b (by
    rintro rfl; rw [ho] at e; cases e
    obtain ⟨es, ep, hd⟩ := hd
    rw [hd] at hq; cases hq)).trans e
  have look : ∀ y v, LookV env s.heap y v → (∀ v c, s.heap.IsCell c v → c ≠ a) → LookV env h' y v := fun y v l hc => by
    rcases l with ⟨a1, m, c, d⟩ | ⟨a1, cc, c, d⟩
    · exact .inl ⟨a1, m, c.sameBut hs (Ne.symm hL), d⟩
    · exact .inr ⟨a1, cc, c, d.sameBut hs (hc _ _ d)⟩
  have hc : ∀ v c, s.heap.IsCell c v → c ≠ a := by
    rintro v c ⟨q, hq, hv⟩ rfl
    rw [ho] at hq; cases hq
    obtain ⟨es, ep, hd⟩ := hd
    rw [hd] at hv; cases hv
  have keep : s₀.heap.StaysIn h' := fun b o e => (hs.2 b (by rintro rfl; rw [fr] at e; cases e)).trans (F.keep b o e)
  obtain ⟨h0, t0, e0⟩ := F.same
  refine ⟨⟨h', tk, by rw [e0]⟩, ⟨keep, fun y f d e => ?_⟩, F.fresh, ?_, fun hf y c e => ?_, F.capart, fun y es e => ?_⟩
  · obtain ⟨v, lv, r, rb⟩ := F.vs.get y f d e
    exact ⟨v, look _ _ lv hc, r.mono sq, rb⟩
  · obtain ⟨m, hm⟩ := F.locs
    exact ⟨m, hm.sameBut hs (Ne.symm hL)⟩
  · obtain ⟨a1, v, q⟩ := F.cells hf y c e
    exact ⟨a1, v, q.sameBut hs (hc _ _ q)⟩
  · cases e
    exact ⟨a, look _ _ l hc, fr, hLS, ho', hd'⟩
/-- own[k] = v -/
theorem ex_dset {x : Str} {o : Obj} {ps : List (Str × Str)} {k v : Str} {i e : Expr} {p sp pos : Pos} (hD : DS prog w o ps) (F : FS env s₀ s vars (some (x, .obj o))) (he : Ev prog w A env s.heap e (.str v)) (hi : Ev prog w A env s.heap i (.str k)) (hz : ps.length ≤ sizeLine)
    (c : ∀ s' o', DS prog w o' (dput ps k v) → FS env s₀ s' vars (some (x, .obj o')) → wpAny (model prog w) A (execs rest env) Q E s')
    (hkf : env.scope.kind = .function := by rfl) (hd : (x == ("__debug__" : Str)) = false := by decide) (hn : (x == ("__classdict__" : Str)) = false := by decide)
    (hs : swapsWith e (some (.Subscript (.Name x p) i sp)) pos.line env = pure false := by rfl) :
    wpAny (model prog w) A (execs (.Assign [.Subscript (.Name x p) i sp] e pos :: rest) env) Q E s := by
  obtain ⟨a, l, fr, hL, ho, hdd⟩ := F.own x _ rfl
  have l : LookV env s.heap x (.ref a) := l
  obtain ⟨kvs, hdo, sp'⟩ := hD
  refine wpAny_execs_cons (wpAny_Assign_Subscript (he.run s _ E (stays_refl _) fun ve s1 k1 r1 => wpAny_Name (load_of_look hkf (l.stays (keeps_stays k1)) (hi.run s1 _ E (keeps_stays k1) fun vi s2 k2 ri => ?_) hn) hd) hs)
  cases ri using Rep.strE with
  | str t =>
  cases r1 using Rep.strE with
  | str u =>
  have k12 := keeps_trans k1 k2
  have F2 := F.step k12
  have ho2 := keeps_stays k12 _ _ ho
  refine wpAny_setItem_pairs (strKind_is prog w k t) (Heap.dictOf_iff.mpr ⟨o, ho2, hdo⟩) (fun h' hd' hs' => ?_) (by rw [sp'.length]; exact hz)
  obtain ⟨o', ho', hdo'⟩ := Heap.dictOf_iff.mp hd'
  refine c _ o' ⟨_, hdo', sp'.stored⟩ (F2.own_obj (l.stays (keeps_stays k12)) fr ho2 hdd hL hs' ho' ?_)
  obtain ⟨es, ep, _, hdat, _⟩ := hdo'
  exact ⟨es, ep, hdat⟩
/-- return own -/
theorem ex_return_obj {x : Str} {o : Obj} {p pos : Pos} (F : FS env s₀ s vars (some (x, .obj o))) (c : ∀ a, s₀.heap.get? a = none → (a == sysModules) = false → s.heap.get? a = some o → Q (.ret (.ref a)) s)
    (hkf : env.scope.kind = .function := by rfl) (hd : (x == ("__debug__" : Str)) = false := by decide) (hn : (x == ("__classdict__" : Str)) = false := by decide) : wpAny (model prog w) A (execs (.Return (some (.Name x p)) pos :: rest) env) Q E s := by
  obtain ⟨a, l, fr, hL, ho, hdd⟩ := F.own x _ rfl
  exact wpAny_execs_cons (wpAny_Return_some (wpAny_Name (load_of_look hkf l (c a fr (beq_eq_false_iff_ne.mpr hL.2) ho) hn) hd))
end
end Mine

end
noncomputable section
open PySem PySem.Calls PySem.W PyProof.Rows
set_option maxRecDepth 100000
set_option maxHeartbeats 1000000
namespace Mine
noncomputable def itemsD (ps : List (Str × Str)) : List D := ps.map fun p => .tup [.str p.1, .str p.2]
section
variable {prog : Program} {w : World} {A : Around} {env : Env} {s₀ s : Shared} {vars : Vars} {own : Own}
end
end Mine

end
noncomputable section
open PySem PySem.Calls PySem.W PyProof.Rows
set_option maxRecDepth 100000
set_option maxHeartbeats 1000000
namespace Mine
open PySem.Builtin
theorem enc_tree {x : PySem.Str} {t u : Tok} : «str.encode» ⟨[.str x t, .str (PySem.Str.ofString "ascii") u], []⟩ = (_codecs.encodeRoad "str.encode" (.str x t) x (PySem.Str.ofString "ascii") none >>= fun v => ret v) := by kernel_rfl
theorem enc_road {x : PySem.Str} {v : Value} : _codecs.encodeRoad "str.encode" v x (PySem.Str.ofString "ascii") none = (_codecs.encodeNarrow "str.encode" _codecs.asciiCodec none v x >>= fun b => mkBytes b) := by kernel_rfl
theorem forIn_once {σ : Type} {f : Nat → σ → Sem (ForInStep σ)} {a b : σ} (h0 : ∀ x, f x a = pure (ForInStep.yield b)) (h1 : ∀ x, f x b = pure (ForInStep.done b)) : ∀ (l : List Nat), l ≠ [] → (forIn l a f : Sem σ) = pure b
  | [], h => absurd rfl h
  | x :: l, _ => by
    rw [List.forIn_cons, h0 x]
    show (forIn l b f : Sem σ) = _
    cases l with
    | nil => rfl
    | cons y l => rw [List.forIn_cons, h1 y]; rfl
/-- signs as octets -/
noncomputable def asBytes (x : PySem.Str) : Array UInt8 := x.cps.map (·.toUInt8)
theorem fold_bytes (l : List Nat) : ∀ a : Array UInt8, l.foldl (fun acc y => acc ++ [y.toUInt8].toArray) a = a ++ (l.map (·.toUInt8)).toArray := by
  induction l with
  | nil => intro a; simp
  | cons y r ih => intro a; rw [List.foldl_cons, ih]; simp
theorem enc_run {x : PySem.Str} {v : Value} (ha : ∀ c ∈ x.cps.toList, c < 128) (hz : x.length ≤ sizeLine) : _codecs.encodeNarrow "str.encode" _codecs.asciiCodec none v x = pure (asBytes x) := by
  have hb : x.cps.findIdx? _codecs.asciiCodec.bad = none := by
    rw [Array.findIdx?_eq_none_iff]
    intro c hc
    have := ha c (by simpa using hc)
    show decide (c ≥ 128) = false
    simp; omega
  by_cases hx : x.length = 0
  · have hx' : x.cps = #[] := Array.eq_empty_of_size_eq_zero hx
    unfold _codecs.encodeNarrow
    simp only [Std.Legacy.Range.forIn_eq_forIn_range', Std.Legacy.Range.size, hx]
    simp [asBytes, hx']
  · unfold _codecs.encodeNarrow
    simp only [Std.Legacy.Range.forIn_eq_forIn_range', Std.Legacy.Range.size]
    have hlen : x.cps.size = x.length := rfl
    have hpos : 0 < x.cps.size := by omega
    refine (congrArg (· >>= fun s => pure s.snd.fst) (forIn_once (σ := Nat × Array UInt8 × _codecs.Faults) (a := (0, #[], {})) (b := (x.cps.size, asBytes x, {})) (fun i => ?_) (fun i => ?_) (List.range' 0 ((x.length - 0 + 1 - 1) / 1)) (by simp; omega))).trans rfl
    · have h1 : ¬ ((#[] : Array UInt8).size > sizeLine) := by simp
      have h2 : x.cps[0]? = some x.cps[0] := Array.getElem?_eq_getElem hpos
      have h3 : _codecs.asciiCodec.bad x.cps[0] = false := by
        have := ha x.cps[0] (by simp)
        show decide (x.cps[0] ≥ 128) = false
        simp; omega
      simp only [h1, if_false, h2, h3, Bool.not_false, if_true]
      have h4 : x.cps.extract 0 = x.cps := by simp
      rw [h4, hb]
      simp only [Option.getD_none, Array.extract_size]
      congr 2
      rw [Nat.zero_add]
      congr 1
      rw [← Array.foldl_toList]
      show (List.foldl (fun acc y => acc ++ [y.toUInt8].toArray) #[] x.cps.toList, _) = _
      rw [fold_bytes]
      have e : ((x.cps.toList.map (·.toUInt8)).toArray : Array UInt8) = x.cps.map (·.toUInt8) := by apply Array.ext'; simp
      rw [e]
      simp [asBytes]
    · have h1 : ¬ ((asBytes x).size > sizeLine) := by unfold asBytes; rw [Array.size_map]; omega
      have h2 : x.cps[x.cps.size]? = none := by simp
      simp only [h1, if_false, h2]
theorem meets_enc {x : PySem.Str} {t u : Tok} (ha : ∀ c ∈ x.cps.toList, c < 128) (hz : x.length ≤ sizeLine) :
    Meets («str.encode» ⟨[.str x t, .str (PySem.Str.ofString "ascii") u], []⟩) (fun _ R s => R (.ok (.ret (.bytes (asBytes x) s.toks))) { s with toks := s.toks + 1 }) := by
  refine .of_wp fun prog w A R s h => ?_
  rw [enc_tree, enc_road, enc_run ha hz]
  refine wpAny_bind (wpAny_bind (wpAny_pure ?_))
  exact wpAny_mkBytes (wpAny_pure ⟨_, rfl, h⟩) (by unfold asBytes; rw [Array.size_map]; exact hz)
section
variable {prog : Program} {w : World} {A : Around} {env : Env} {h : Heap}
theorem meth_encode {x : PySem.Str} : Meth prog w A (.str x) "encode" "str.encode" := ⟨fun s v pl Q E r hq => by
  (first | cases r using Rep.intE | cases r using Rep.strE | cases r using Rep.bytesE | cases r using Rep.lstE | cases r using Rep.tupE | cases r using Rep.boolE | cases r using Rep.tyE | cases r using Rep.noneE | cases r)
  with_reducible exact GM.of (.str x _) (typeIs_str _ _ _) PySem.F.slot_str_encode PySem.F.type_str_encode GM.noRef hq⟩
theorem call_encode {x : PySem.Str} (ha : ∀ c ∈ x.cps.toList, c < 128) (hz : x.length ≤ sizeLine) : CallD prog w A h (.builtin "str.encode") [.str x, .str (PySem.Str.ofString "ascii")] (.bytes (asBytes x)) := ⟨fun s vs Q E q r c => by
  obtain ⟨v, u, rfl, r1, r2⟩ := r.inv2
  cases r1 using Rep.strE with
  | str t1 =>
  cases r2 using Rep.strE with
  | str t2 =>
  exact call_meets PySem.F.slot_str_encode (typeIs_str _ _ _) PySem.F.entry_str_encode (PySem.F.args_str_encode_2 _ _) (meets_enc ha hz) (c _ _ (keeps_tok s _) (.bytes _ _))⟩
end
end Mine

end
noncomputable section
open PySem PySem.Calls PySem.W PyProof.Rows
set_option maxRecDepth 100000
set_option maxHeartbeats 1000000
namespace Mine
section
variable {prog : Program} {w : World} {A : Around} {env : Env} {h : Heap} {K : Frag} {mg mb : Str → Option Value}
/-- a method that a built-in type holds as it is -/
theorem getm_type {s : Shared} {T : String} {name : Str} {v : Value} {pl : Sem Bool} {Q : Value × List Value → Shared → Prop} {E : Value → Shared → Prop} (X : K.In s.heap) (ht : typeOf (.type T) = pure (.type "type")) (hs : Manifest.isStub T = false)
    (e : findCls K (.type T) (.type "type") name = some (.val v)) (hh : handedIn v = true) (hq : Q (v, []) { s with toks := s.toks + 1 }) : wpAny (model prog w) A (getMethod (.type T) name pl) Q E s := by
  have hg : findIn K (.type "type") "__getattribute__" = some (some (.builtin "type.__getattribute__")) := type_tga
  have hstub : opaqueClassAbove (.type T) = pure none := by unfold opaqueClassAbove; dsimp only; rw [hs]; rfl
  have L0 : Looks (model prog w) s.heap (typeOf (.type T)) (.type "type") := .of_pure ht
  have LO : Looks (model prog w) s.heap (opaqueClassAbove (.type T)) none := .of_pure hstub
  unfold getMethod specialOf
  refine wpAny_bind (wpAny_bind (L0.here ((looks_findIn X hg).here ?_)))
  dsimp only
  rw [if_pos canon_tga]
  refine wpAny_bind (wpAny_mono (Q := fun u => Q (u, [])) (E := E) (cls_open X LO L0 hg (looks_hook X (r := none) (by rfl)) (by show subIn K _ _ = _; rfl) e (wpAny_pure ?_)) (fun _ _ z => wpAny_pure z) fun _ _ z => z)
  show wpAny _ _ (handedOut v) _ _ _
  rw [handedOut_of hh]
  exact wpAny_pure hq
/-- T.name(..) -/
theorem ev_tymeth {x : Str} {T : String} {id : String} {name : Str} {xp apos pos : Pos} {es : List Expr} {pl : Sem Bool} {ds : List D} {d : D} (G : Gr K mg mb h) (n : NameIs prog w A env h x (.type T)) (ht : typeOf (.type T) = pure (.type "type")) (hs : Manifest.isStub T = false)
    (e : findCls K (.type T) (.type "type") name = some (.val (.builtin id))) (hh : handedIn (.builtin id) = true) (a : EvL prog w A env h es ds) (c : CallD prog w A h (.builtin id) ds d)
    (hn : noStar es = true := by rfl)
    (he : eval (.Call (.Attribute (.Name x xp) name apos) es [] pos) env = (do
      let ov ← eval (.Name x xp) env
      standAt apos.atName
      let (f, first) ← holding [ov] (getMethod ov name pl)
      callWith pos f first (backTo pos (starEach es env)) []) := by rfl) : Ev prog w A env h (.Call (.Attribute (.Name x xp) name apos) es [] pos) d := ⟨fun s Q E q k =>
  MethodCall_ (n.run xp s _ E q (getm_type (G.stays q).X ht hs e hh (by
    have k0 := keeps_tok s (s.toks + 1)
    exact callWith_any hn (.builtin id) (a.run pos _ _ E (stays_trans q (keeps_stays k0)) fun vs s2 k2 r2 => ⟨keeps_stays k2, c.run s2 vs _ E (stays_trans q (keeps_stays (keeps_trans k0 k2))) r2
      fun v' s3 k3 r3 => k v' s3 (keeps_trans (keeps_trans k0 k2) k3) r3⟩)))) he⟩
end
theorem find_maketrans {K : Frag} : findCls K (.type "bytes") (.type "type") (Str.ofString "maketrans") = some (.val (.builtin "bytes.maketrans")) := by rfl
theorem handed_mt : handedIn (.builtin "bytes.maketrans") = true := by first | rfl | decide +kernel
theorem typeOf_bytes : typeOf (.type "bytes") = pure (.type "type") := by first | rfl | kernel_rfl
theorem stub_bytes : Manifest.isStub "bytes" = false := by first | rfl | decide +kernel
end Mine

end
noncomputable section
open PySem PySem.Calls PySem.W PyProof.Rows
set_option maxRecDepth 100000
set_option maxHeartbeats 1000000
namespace Mine
theorem repL_of_get {g : Heap} : ∀ {vs : List Value} {ds : List D}, vs.length = ds.length → (∀ (j : Nat) (v : Value) (d : D), vs[j]? = some v → ds[j]? = some d → Rep g v d) → RepL g vs ds
  | [], [], _, _ => .nil
  | v :: vs, d :: ds, hl, h => .cons (h 0 v d rfl rfl) (repL_of_get (by simpa using hl) fun j u e hu he => h (j + 1) u e (by simpa using hu) (by simpa using he))
  | [], d :: ds, hl, _ => by cases hl
  | v :: vs, [], hl, _ => by cases hl
section
variable {prog : Program} {w : World} {A : Around} {env : Env} {h : Heap} {s : Shared} {E : Value → Shared → Prop}
noncomputable def OctAt (b : Array UInt8) (i : Nat) (v : Value) : Prop := ∃ c u, b[i]? = some c ∧ v = .int (c.toNat : Int) u
end
end Mine

end
noncomputable section
open PySem PySem.Calls PySem.W PyProof.Rows
set_option maxRecDepth 100000
set_option maxHeartbeats 1000000
namespace Mine
section
variable {prog : Program} {w : World} {A : Around} {env : Env} {s : Shared} {Q : Flow → Shared → Prop} {E : Value → Shared → Prop} {rest : List Stmt}
/-- try: the body, and what its exceptions do -/
theorem ex_try {body orelse : List Stmt} {h₀ : ExceptHandler} {hs : List ExceptHandler} {pos : Pos}
    (h : wpAny (model prog w) A (execs body env) (fun f s₁ => match f with | .next => wpAny (model prog w) A (execs orelse env) (fun f s' => match f with | .next => wpAny (model prog w) A (execs rest env) Q E s' | f => Q f s') E s₁ | f => Q f s₁)
      (fun e s₁ => wpAny (model prog w) A (noteFrame e env) (fun _ s₂ => wpAny (model prog w) A (setFlight e none) (fun _ s₃ => wpAny (model prog w) A (handleBy e env (h₀ :: hs)) (fun f s' => match f with | .next => wpAny (model prog w) A (execs rest env) Q E s' | f => Q f s') E s₃) E s₂) E s₁) s) :
    wpAny (model prog w) A (execs (.Try body (h₀ :: hs) orelse [] pos :: rest) env) Q E s := by
  refine wpAny_execs_cons (wpAny_Try_except (wpAny_mono h (fun f s₁ h₁ => ?_) fun _ _ x => x))
  cases f <;> exact h₁
end
end Mine

end
noncomputable section
open PySem PySem.Calls PySem.W PyProof.Rows
set_option maxRecDepth 100000
set_option maxHeartbeats 1000000
namespace Mine
theorem ints_rep {g : Heap} : ∀ {vs : List Value} {ns : List Int}, IntsAre vs ns → RepL g vs (ns.map .int)
  | _, _, .nil => .nil
  | _, _, .cons n t r => .cons (.int n t) (ints_rep r)
section
variable {prog : Program} {w : World} {A : Around} {env : Env} {h : Heap}
/-- a slice of a list that is no plain one of ours -/
theorem evfl_slice_raw {value : Expr} {lower upper : Option Expr} {p pos : Pos} {l : Addr} {vs : Array Value} {ds : List D} {lo hi : Option Int} (hv : Ev prog w A env h value (.raw (.ref l))) (hL : h.IsList l vs) (hr : ∀ g, RepL g vs.toList ds) (hl : Part prog w A env h lower lo) (hu : Part prog w A env h upper hi) (hz : ds.length ≤ sizeLine) :
    EvFL prog w A env h (.Subscript value (.Slice lower upper none p) pos) (cut ds lo hi) :=
  ⟨fun s Q E q c => Subscript_ (hv.run s _ E q fun v1 s1 k1 r1 => wpAny_Slice (hl.run s1 _ E (stays_trans q (keeps_stays k1)) fun vl s2 k2 pl => hu.run s2 _ E (stays_trans q (keeps_stays (keeps_trans k1 k2))) fun vu s3 k3 pu => wpAny_pure (by
    (first | cases r1 using Rep.intE | cases r1 using Rep.strE | cases r1 using Rep.bytesE | cases r1 using Rep.lstE | cases r1 using Rep.tupE | cases r1 using Rep.boolE | cases r1 using Rep.tyE | cases r1 using Rep.noneE | cases r1)
    have hL3 : s3.heap.IsList l vs := hL.at fun o e => stays_trans q (keeps_stays (keeps_trans (keeps_trans k1 k2) k3)) _ o e
    have hL4 := hL3.push { cls := .type "slice", data := .fields #[vl, vu, .none] }
    refine sub_tail hL4.typeIs slot_list_getitem.lookup ?_
    have hss := Heap.IsSliceOf.new s3.heap vl vu .none
    refine wpAny_getItem_list_slice hL4 hss pl pu .none (by simp) ?_ (by rw [size_of_repL (hr {})]; exact hz)
    have kk := keeps_trans (keeps_trans (keeps_trans k1 k2) k3) (keeps_push s3 { cls := .type "slice", data := .fields #[vl, vu, .none] })
    refine c _ _ _ (keeps_trans kk (keeps_push _ _)) (fresh_later kk (Nat.le_refl _)) ⟨0, Heap.get?_push_size _ rfl⟩ ?_
    exact mem_pick (hr _) lo hi)))⟩
end
section
variable {env : Env} {b s : Shared} {vars : Vars}
theorem FS.settle2 (F : FS env b s vars none) : ∃ g, Up b g ∧ FS env g s (settled vars) none ∧ SeqSub s.heap g.heap := by
  obtain ⟨g, ug, FG, sq⟩ := F.seqRebase
  refine ⟨g, ug, { FG with vs := ⟨FG.vs.keep, fun x f d e => ?_⟩ }, sq⟩
  obtain ⟨hf, b', e'⟩ := settled_look e
  obtain ⟨v, l, r, _⟩ := FG.vs.get x b' d e'
  exact ⟨v, l, r, fun _ => r.mono sq⟩
/-- the frame's objects may have got other slots -/
theorem FS.slots {g s' : Shared} (F : FS env g s (settled vars) none) (hs : ∃ h tk, s' = { s with heap := h, toks := tk }) (hg : g.heap.StaysIn s'.heap) (hu : s.heap.UpToSlots s'.heap) : FS env g s' (settled vars) none := by
  have cell : ∀ {c : Addr} {v : Option Value}, s.heap.IsCell c v → s'.heap.IsCell c v := by
    rintro c v ⟨o, ho, hd⟩
    obtain ⟨sl, h1⟩ := hu c o ho (fun vs q => by rw [hd] at q; cases q)
    exact ⟨_, h1, hd⟩
  refine ⟨?_, ⟨hg, fun x f d e => ?_⟩, F.fresh, ?_, fun hf x c e => ?_, F.capart, fun x od e => by cases e⟩
  · obtain ⟨h1, t1, e1⟩ := F.same
    obtain ⟨h2, t2, e2⟩ := hs
    exact ⟨h2, t2, by rw [e2, e1]⟩
  · obtain ⟨hf, _, _⟩ := settled_look e
    simp only at hf
    subst hf
    obtain ⟨v, l, _, rb⟩ := F.vs.get x true d e
    refine ⟨v, ?_, (rb rfl).stays hg, rb⟩
    rcases l with ⟨a, m, c, e⟩ | ⟨a, cc, c, e⟩
    · exact .inl ⟨a, m, hu.ns c, e⟩
    · exact .inr ⟨a, cc, c, cell e⟩
  · obtain ⟨m, hm⟩ := F.locs
    exact ⟨m, hu.ns hm⟩
  · obtain ⟨h1, v, h2⟩ := F.cells hf x c e
    exact ⟨h1, v, cell h2⟩
end
end Mine

end
noncomputable section
open PySem PySem.Calls PySem.W PyProof.Rows
set_option maxRecDepth 100000
set_option maxHeartbeats 1000000
namespace Mine
section
variable {prog : Program} {w : World} {A : Around} {env : Env} {g h : Heap}
theorem evb_item_list {value slice : Expr} {pos : Pos} {ds : List D} {k : Int} {d : D} (hv : EvB prog w A env g h value (.lst ds)) (hg : g.StaysIn h) (hs : Ev prog w A env h slice (.int k)) (h0 : 0 ≤ k) (hk : k < 2 ^ 62) (e : ds[k.toNat]? = some d) : EvB prog w A env g h (.Subscript value slice pos) d :=
  ⟨fun s Q E q c => Subscript_ (hv.run s _ E q fun v1 s1 k1 r1 rg => hs.run s1 _ E (stays_trans q (keeps_stays k1)) fun v2 s2 k2 r2 => by
    have gs : g.StaysIn s2.heap := stays_trans hg (stays_trans q (keeps_stays (keeps_trans k1 k2)))
    have r1' := rg.stays gs
    obtain ⟨T, id, hT, hl⟩ := rep_getitem r1' trivial
    refine sub_tail hT hl ?_
    cases r2 using Rep.intE with
    | int t =>
    cases rg with
    | @lst a vs _ pg qg =>
    obtain ⟨v, hv, hr⟩ := qg.get e
    have p2 : s2.heap.PlainList a vs := let ⟨n, e⟩ := pg; ⟨n, gs _ _ e⟩
    exact wpAny_getItem_list p2.isList h0 (by omega) (by simpa using hv) (c v s2 (keeps_trans k1 k2) (hr.stays gs) hr))⟩
end
end Mine

end
noncomputable section
open PySem PySem.Calls PySem.W PyProof.Rows
set_option maxRecDepth 100000
set_option maxHeartbeats 1000000
namespace Mine
section
variable {prog : Program} {w : World} {A : Around} {env : Env} {h : Heap}
theorem RepL.rep {h : Heap} {vs : List Value} {ds : List D} (r : RepL h vs ds) : ∀ n, RepL h (List.replicate n vs).flatten (List.replicate n ds).flatten
  | 0 => .nil
  | n + 1 => by rw [List.replicate_succ, List.replicate_succ, List.flatten_cons, List.flatten_cons]; exact RepL.append (r.rep n) r
/-- a list times a number -/
theorem op_mul_list {ds : List D} {k : Int} (hne : ds ≠ []) (hlo : -(2 ^ 63 : Int) ≤ k) (hhi : k < 2 ^ 63) (hz : ds.length * k.toNat ≤ 2 ^ 24) : Op prog w A (.bin .Mult) (.lst ds) (.int k) (.lst (List.replicate k.toNat ds).flatten) := ⟨fun s v1 v2 Q E r1 r2 c => by
  cases r2 using Rep.intE with
  | int u =>
  cases r1 using Rep.lstE with
  | lst p q =>
    rename_i l items
    obtain ⟨n, hl⟩ := id p
    have hsz := size_of_repL q
    have hem : items.isEmpty = false := by
      cases ds with
      | nil => exact absurd rfl hne
      | cons d r =>
        cases he : items.isEmpty with
        | false => rfl
        | true => rw [Array.isEmpty_iff] at he; rw [he] at hsz; simp at hsz
    refine wpAny_binaryOp_repeat_ref (T := "list") (U := "int") (by decide) ⟨_, hl, rfl⟩ (fun s' => typeIs_int s' k u) noFill_list_mul F.fills_int_mul F.slot_int_rmul repeat_list F.slot_int_index.lookup
      (call_meets F.slot_int_rmul (typeIs_int s k u) F.entry_int_rmul (F.args_int_rmul_2 _ _) (int___rmul___int_list k u l items n)
        ⟨hl, rfl, ⟨_, hl, rfl⟩, call_meets F.slot_list_mul ⟨_, hl, rfl⟩ F.entry_list_mul (F.args_list_mul_2 _ _)
          (AutoListH.list___mul___list_int_3 l items n k u (by simp [Builtin.List.listFitsIndex]; omega) (by rw [hsz]; omega) (by simp [Builtin.List.listTooLong, sizeLine]; rw [hsz]; omega))
          ⟨hl, ?_⟩⟩)
    rw [hem]
    simp only [Bool.false_eq_true, if_false, listMul_foldl]
    exact c _ _ (keeps_push s _) (rep_newList (by simpa using q.rep k.toNat))⟩
theorem rep_cps (x : Str) : ∀ (n : Nat) (a : Array Nat), (List.replicate n x.cps).foldl (· ++ ·) a = (a.toList ++ (List.replicate n x.cps.toList).flatten).toArray
  | 0, a => by simp
  | n + 1, a => by rw [List.replicate_succ, List.foldl_cons, rep_cps x n]; simp [List.replicate_succ]
/-- a text repeated -/
noncomputable def strRep (x : Str) (n : Nat) : Str := ⟨(List.replicate n x.cps.toList).flatten.toArray⟩
theorem op_mul_str {x : Str} {k : Int} (h0 : 0 ≤ k) (hk : k < 1000) (hz : x.length ≤ 1000) : Op prog w A (.bin .Mult) (.str x) (.int k) (.str (strRep x k.toNat)) := ⟨fun s v1 v2 Q E r1 r2 c => by
  cases r2 using Rep.intE with
  | int u =>
  cases r1 using Rep.strE with
  | str t =>
    have hmul : x.length * k.toNat ≤ 1000 * 1000 := Nat.mul_le_mul hz (by omega)
    refine P.mul_str (by
        have h1 : ¬ k < -(2 ^ 63 : Int) := by omega
        have h2 : ¬ k ≥ 2 ^ 63 := by omega
        rw [decide_eq_false h1, decide_eq_false h2]; rfl) (fun h1 _ => ?_) (fun h1 _ => ?_) ?_
    · have : (1000 : Int) ≤ (2 ^ 63 - 1) / k := (Int.le_ediv_iff_mul_le (by omega)).mpr (by omega)
      omega
    · have hT : ¬ 16777216 < x.length * k.toNat := by omega
      simpa [Builtin.Str.tooLong, sizeLine] using hT
    · by_cases h1 : k < 1
      · rw [if_pos h1]
        have : k.toNat = 0 := by omega
        rw [this] at c
        exact ⟨by decide, c _ _ (keeps_tok s _) (.str _ _)⟩
      · rw [if_neg h1]
        by_cases h2 : (k == 1 || x.length == 0) = true
        · rw [if_pos h2]
          have e : strRep x k.toNat = x := by
            rcases Bool.or_eq_true_iff.mp h2 with h2 | h2
            · have : k.toNat = 1 := by have := beq_iff_eq.mp h2; omega
              rw [this]; unfold strRep; simp
            · have hx : x.cps = #[] := Array.eq_empty_of_size_eq_zero (beq_iff_eq.mp h2)
              obtain ⟨x⟩ := x
              simp only at hx
              subst hx
              unfold strRep; simp
          rw [e] at c
          exact c _ _ (keeps_refl s) (.str _ _)
        · rw [if_neg h2]
          have e : (⟨(List.replicate k.toNat x.cps).foldl (· ++ ·) #[]⟩ : Str) = strRep x k.toNat := by unfold strRep; rw [rep_cps]; simp
          rw [e]
          refine ⟨?_, c _ _ (keeps_tok s _) (.str _ _)⟩
          have hl : (strRep x k.toNat).length = k.toNat * x.length := by
            show ((List.replicate k.toNat x.cps.toList).flatten.toArray).size = _
            simp [Str.length]
          rw [hl]
          have : k.toNat * x.length = x.length * k.toNat := Nat.mul_comm _ _
          have hT : ¬ 16777216 < k.toNat * x.length := by omega
          simpa [Builtin.Str.tooLong, sizeLine] using hT⟩

theorem ints_any {g : Heap} {a : Int} {u : Tok} : ∀ {vs : List Value} {ns : List Int}, RepL g vs (ns.map .int) → vs.any (fun y => match y with | .int b _ => b == a | _ => false) = ns.contains a
  | [], [], _ => rfl
  | v :: vs, n :: ns, .cons r rs => by
    cases r using Rep.intE with
    | int t =>
    rw [List.any_cons, ints_any (u := u) rs, List.contains_cons]
    show ((n == a) || _) = ((a == n) || _)
    congr 1
    exact Bool.eq_iff_iff.mpr (by rw [beq_iff_eq, beq_iff_eq]; exact eq_comm)
  | [], n :: ns, r => by cases r
  | v :: vs, [], r => by cases r
theorem int_of_mem {g : Heap} {y : Value} : ∀ {vs : List Value} {ns : List Int}, RepL g vs (ns.map .int) → y ∈ vs → ∃ b t, y = .int b t
  | v :: vs, n :: ns, .cons r rs, hm => by
    rcases List.mem_cons.mp hm with rfl | hm
    · cases r using Rep.intE with | int t => exact ⟨_, _, rfl⟩
    · exact int_of_mem rs hm
  | [], _, _, hm => by cases hm
  | v :: vs, [], r, _ => by cases r
theorem cmp_notin_ints {xs : List Int} {a : Int} : Op prog w A (.cmp .NotIn) (.int a) (.lst (xs.map .int)) (.bool (!xs.contains a)) := ⟨fun s v1 v2 Q E r1 r2 c => by
  cases r1 using Rep.intE with
  | int u =>
  cases r2 using Rep.lstE with
  | lst p q =>
    rename_i l items
    refine PySem.SeqAt.notIn_listAt (fun y => match y with | .int b _ => b == a | _ => false) p.isList (fun y hy => ?_) ?_
    · obtain ⟨b, t, rfl⟩ := int_of_mem q (Array.mem_toList_iff.mpr hy)
      exact PySem.SeqAt.EqAt.int_int b t a u
    · have := ints_any (a := a) (u := u) q
      rw [Array.any_toList] at this
      rw [this]
      exact c _ _ (keeps_refl s) (.bool _)⟩
theorem meth_lindex {ds : List D} : Meth prog w A (.lst ds) "index" "list.index" := ⟨fun s v pl Q E r hq => by
  cases r using Rep.lstE with
  | lst p q =>
    obtain ⟨n, hl⟩ := id p
    exact getMethod_builtin ⟨_, hl, rfl⟩ PySem.F.plainAttrs_list PySem.F.slot_list_index PySem.F.type_list_index (fun a e => by cases e; exact ⟨_, hl, rfl⟩) hq⟩
theorem call_lindex {xs : List Int} {a : Int} (hm : a ∈ xs) (hz : xs.length ≤ 1000) : CallD prog w A h (.builtin "list.index") [.lst (xs.map .int), .int a] (.int (xs.idxOf a : Nat)) := ⟨fun s vs Q E q r c => by
  obtain ⟨v, u, rfl, r1, r2⟩ := r.inv2
  cases r2 using Rep.intE with
  | int t =>
  cases r1 using Rep.lstE with
  | lst p q1 =>
    rename_i l items
    have hi := ints_are q1
    have hj : xs.idxOf a < xs.length := List.idxOf_lt_length_iff.mpr hm
    have hlen := hi.length
    have hl : s.heap.IsList l items.toList.toArray := by rw [Array.toArray_toList]; exact p.isList
    obtain ⟨⟨cls, dd, data, sl⟩, ho, hc, n, hd⟩ := id hl
    simp only at hc hd
    subst hc hd
    refine call_meets PySem.F.slot_list_index ⟨_, ho, rfl⟩ PySem.F.entry_list_index (PySem.F.args_list_index_2 _ _)
      (PySem.SeqAt.list_indexAt l items.toList.toArray n dd sl (.int a t) (isInt a) (xs.idxOf a) (by show _ < items.toList.length; omega) (by omega) ?_ ?_) ⟨ho, fun y hy => (eq_isInt a t hi y (by simpa using hy)).at _ _, c _ _ (keeps_tok s _) (.int _ _)⟩
    · show isInt a items.toList[xs.idxOf a] = true
      rw [isInt_at a hi _ (by omega) hj]
      simpa using List.getElem_idxOf hj
    · intro j hjs hlt
      show isInt a items.toList[j] = false
      rw [isInt_at a hi j hjs (by omega)]
      exact ne_of_lt_idxOf hlt _⟩
theorem call_sum_ints {xs : List Int} (hh : A.handled = none) : CallD prog w A h (.builtin "sum") [.lst (xs.map .int)] (.int xs.sum) := ⟨fun s vs Q E q r c => by
  obtain ⟨v, rfl, r1⟩ := r.inv1
  cases r1 using Rep.lstE with
  | lst p q1 =>
    rename_i l items
    have hi := ints_are q1
    obtain ⟨ys, hys⟩ := (hi.allInts).items
    have hl : s.heap.IsList l (intItems ys) := by rw [← hys, Array.toArray_toList]; exact p.isList
    refine sum_intListG hh hl fun h' tk t' hk => ?_
    have e : preSum (numAt ys) ys.size = xs.sum := by
      rw [preSum_eq, List.take_of_length_le (by simp), ← nums_intItems, ← hys]
      rw [show items.toList.toArray.toList = items.toList from rfl, hi.numsOf]
    rw [e]
    exact c _ _ ⟨h', tk, rfl, hk⟩ (.int _ _)⟩
end
end Mine

end
noncomputable section
open PySem PySem.Calls PySem.W PyProof.Rows
set_option maxRecDepth 100000
set_option maxHeartbeats 1000000
namespace Mine
section
variable {prog : Program} {w : World} {A : Around} {env : Env} {s₀ s : Shared} {vars : Vars} {own : Own} {Q : Flow → Shared → Prop} {E : Value → Shared → Prop} {rest : List Stmt}
theorem FS.drop {own : Own} (F : FS env s₀ s vars own) : FS env s₀ s vars none := { F with own := fun x ds e => by cases e }
/-- a name takes a new list, which the frame owns -/
theorem ex_own_new {x : Str} {e : Expr} {p pos : Pos} {ds : List D} (F : FS env s₀ s vars own) (hx : vars.lookup x = none) (he : EvFL prog w A env s.heap e ds) (hf : ∀ d ∈ ds, d.flat = true)
    (c : ∀ s', FS env s₀ s' vars (some (x, .lst ds)) → wpAny (model prog w) A (execs rest env) Q E s')
    (hst : storable env x = true := by rfl) (hs : swapsWith e (some (.Name x p)) pos.line env = pure false := by rfl) : wpAny (model prog w) A (execs (.Assign [.Name x p] e pos :: rest) env) Q E s := by
  refine wpAny_execs_cons (wpAny_Assign_Name (he.run s _ E (stays_refl _) fun a ys s1 k1 hn pl r1 => ?_) hs)
  refine st_store2 (F.drop.step k1) (.lst pl r1) (fun q => by cases q) (storable_of hst).1 (storable_of hst).2 (fun ds q => by cases q) (b := false) fun s' sq l F' => c s' ?_
  refine { F' with vs := ⟨F'.vs.keep, fun y b d e => ?_⟩, own := fun y ds' e => ?_ }
  · refine F'.vs.get y b d ?_
    rw [lookup_cons_ne (by rintro rfl; rw [hx] at e; cases e)]
    exact e
  · cases e
    obtain ⟨n, hp⟩ := pl
    refine ⟨a, l, ?_, ys, ⟨n, sq _ _ hp ⟨_, _, rfl⟩⟩, r1.anyHeap hf⟩
    cases q : s₀.heap.get? a with
    | none => rfl
    | some o => have := F.keep a o q; rw [hn] at this; cases this
/-- a new list and the own one are handed back as a pair -/
theorem ex_return_pair {x : Str} {e1 : Expr} {n : Nat} {p tp pos : Pos} {ds1 ds : List D} (F : FS env s₀ s vars (some (x, .lst ds))) (he : EvFL prog w A env s.heap e1 ds1) (hf1 : ∀ d ∈ ds1, d.flat = true) (hf : ∀ d ∈ ds, d.flat = true)
    (c : ∀ v s', Keeps s₀ s' → Rep (nw {} s₀.heap s'.heap) v (.tup [.lst ds1, .lst ds]) → Q (.ret v) s') (hne : noStar [e1] = true := by rfl)
    (hkf : env.scope.kind = .function := by rfl) (hd : (x == ("__debug__" : Str)) = false := by decide) (hn : (x == ("__classdict__" : Str)) = false := by decide) :
    wpAny (model prog w) A (execs (.Return (some (.Tuple [e1, .Name x p] n tp)) pos :: rest) env) Q E s := by
  obtain ⟨a, l, fr, us, ⟨k, hp⟩, r⟩ := F.own x _ rfl
  have he' : starEach (e1 :: [.Name x p]) env = (false, eval e1 env) :: starEach [.Name x p] env := by
    cases e1 <;> first | rfl | cases hne
  refine wpAny_execs_cons (wpAny_Return_some (Tuple_ (args_cons (he.run s _ E (stays_refl _) fun a1 ys s1 k1 hn1 pl r1 => args_cons (wpAny_Name (load_of_look hkf (l.stays (keeps_stays k1)) (args_nil ?_) hn) hd) rfl) he')))
  refine wpAny_newObj_type ?_ (by show 2 ≤ sizeLine; decide)
  have kk := keeps_trans k1 (keeps_push s1 { cls := .type "tuple", data := .seq [Value.ref a1, Value.ref a].toArray })
  have k0 : Keeps s₀ { s1 with heap := s1.heap.push { cls := .type "tuple", data := .seq [Value.ref a1, Value.ref a].toArray } } := keeps_trans F.keeps kk
  have fresh1 : s₀.heap.get? a1 = none := by
    cases q : s₀.heap.get? a1 with
    | none => rfl
    | some o => have := F.keep a1 o q; rw [hn1] at this; cases this
  obtain ⟨m, hp1⟩ := pl
  refine c _ _ k0 (.tup (vs := [Value.ref a1, Value.ref a].toArray) ⟨_, 0, nw_new (Heap.get?_push_size _ rfl) (none_later (keeps_trans F.keeps k1)), rfl, rfl⟩ (.cons (.lst (vs := ys) ⟨m, nw_new (Heap.get?_push_of_some _ hp1) fresh1⟩ (r1.anyHeap hf1)) (.cons (.lst (vs := us) ⟨k, nw_new (Heap.get?_push_of_some _ (keeps_stays k1 _ _ hp)) fr⟩ (r.anyHeap hf)) .nil)))
end
end Mine

end
noncomputable section
open PySem PySem.Calls PySem.W PyProof.Rows
set_option maxRecDepth 100000
set_option maxHeartbeats 1000000
namespace Mine
/-- a scratch object: a record, or the tuple that zip hands out anew -/
noncomputable def Scr (o : Obj) : Prop := (∃ vs, o.data = .fields vs) ∨ (o.cls = .type "tuple" ∧ ∃ xs n, o.data = .seq xs n)
section
variable {prog : Program} {w : World} {A : Around} {env : Env} {b s : Shared} {vars : Vars} {own : Own}
theorem FS.changeT {h' : Heap} {tk : Nat} (F : FS env b s vars own) (hfl : ∀ x p, vars.lookup x = some p → p.1 = true) (W : List Addr) (hW : ∀ a ∈ W, ∃ o, s.heap.get? a = some o ∧ Scr o) (hb : ∀ a ∈ W, b.heap.get? a = none)
    (hk : ∀ a o, a ∉ W → s.heap.get? a = some o → h'.get? a = some o) : FS env b { s with heap := h', toks := tk } vars own := by
  have up : ∀ a o, s.heap.get? a = some o → ¬ Scr o → h'.get? a = some o := fun a o e q => hk a o (fun hm => by
    obtain ⟨o', e', q'⟩ := hW a hm
    rw [e] at e'; cases e'; exact q q') e
  have ns : ∀ a m, s.heap.Ns a m → h'.Ns a m := fun a m ⟨o, es, ep, e, q, r⟩ => ⟨o, es, ep, up a o e (by rintro (⟨vs, x⟩ | ⟨_, xs, n, x⟩) <;> (rw [q] at x; cases x)), q, r⟩
  have cell : ∀ a v, s.heap.IsCell a v → h'.IsCell a v := fun a v ⟨o, e, q⟩ => ⟨o, up a o e (by rintro (⟨vs, x⟩ | ⟨_, xs, n, x⟩) <;> (rw [q] at x; cases x)), q⟩
  have look : ∀ x v, LookV env s.heap x v → LookV env h' x v := fun x v l => by
    rcases l with ⟨a, m, c, d⟩ | ⟨a, cc, c, d⟩
    · exact .inl ⟨a, m, ns _ _ c, d⟩
    · exact .inr ⟨a, cc, c, cell _ _ d⟩
  have bh : b.heap.StaysIn h' := fun a o e => hk a o (fun hm => by rw [hb a hm] at e; cases e) (F.keep a o e)
  obtain ⟨h, tk0, e0⟩ := F.same
  refine ⟨⟨h', tk, by rw [e0]⟩, ⟨bh, fun x f d e => ?_⟩, F.fresh, ?_, fun hf x c e => ?_, F.capart, fun x ds e => ?_⟩
  · obtain ⟨v, l, r, rb⟩ := F.vs.get x f d e
    have := hfl x _ e
    exact ⟨v, look _ _ l, (rb this).stays bh, rb⟩
  · obtain ⟨m, hm⟩ := F.locs
    exact ⟨m, ns _ _ hm⟩
  · obtain ⟨a, v, q⟩ := F.cells hf x c e
    exact ⟨a, v, cell _ _ q⟩
  · obtain ⟨a, l, fr, pl⟩ := F.own x ds e
    refine ⟨a, l.to fun l => look _ _ l, fr, pl.at fun o eo => up a o eo ?_⟩
    cases ds with
    | lst ds => obtain ⟨vs, ⟨n, p⟩, r⟩ := pl; rw [p] at eo; cases eo; rintro (⟨vs, x⟩ | ⟨x, _⟩) <;> simp at x
    | acc c ds => obtain ⟨vs, ⟨n, p⟩, r⟩ := pl; rw [p] at eo; cases eo; rintro (⟨vs, x⟩ | ⟨x, _⟩) <;> simp at x
    | obj o' => obtain ⟨h1, h2, es, ep, h3⟩ := pl; rw [h2] at eo; cases eo; rintro (⟨vs, x⟩ | ⟨_, xs, n, x⟩) <;> (rw [h3] at x; cases x)
/-- a larger base without what the frame may change and without W -/
theorem FS.rebaseZ (F : FS env b s vars own) (W : List Addr) (hb : ∀ a ∈ W, b.heap.get? a = none) : ∃ g : Shared, (∃ h, g = { b with heap := h }) ∧ b.heap.StaysIn g.heap ∧ (∀ a ∈ W, g.heap.get? a = none) ∧ FS env g s vars own ∧
    (∀ a o, a ∉ W → s.heap.get? a = some o → ¬ OwnAddr env b s own a → g.heap.get? a = some o) := by
  obtain ⟨g, ⟨hg, rfl⟩, st, FG, all⟩ := F.rebase
  have nn : ∀ a, hg.get? a = none → (hideAll hg W).get? a = none := fun a e => by
    cases q : (hideAll hg W).get? a with
    | none => rfl
    | some o => have := of_hideAll W q; rw [e] at this; cases this
  have stz : b.heap.StaysIn (hideAll hg W) := fun a o e => hideAll_get _ (st a o e) fun hm => by rw [hb a hm] at e; cases e
  refine ⟨{ b with heap := hideAll hg W }, ⟨_, rfl⟩, stz, fun a ha => hideAll_none _ ha, ?_, fun a o hn e ho => hideAll_get _ (all a o e ho) hn⟩
  obtain ⟨h0, t0, e0⟩ := F.same
  refine ⟨⟨h0, t0, by rw [e0]⟩, ⟨fun a o e => FG.keep a o (of_hideAll _ e), fun x f d e => ?_⟩, nn _ FG.fresh, F.locs, fun hf x c e => ⟨nn _ (FG.cells hf x c e).1, (FG.cells hf x c e).2⟩, F.capart, fun x od e => ?_⟩
  · obtain ⟨v, l, r, rb⟩ := F.vs.get x f d e
    exact ⟨v, l, r, fun q => (rb q).stays stz⟩
  · obtain ⟨a, l, fr, is⟩ := F.own x od e
    obtain ⟨a2, l2, fr2, _⟩ := FG.own x od e
    have : a = a2 := held_unique l l2
    subst this
    exact ⟨a, l, nn _ fr2, is.base (.of_stays stz)⟩
/-- what a comprehension adds to, W left out of the base -/
theorem emit_oneZ {cenv : Env} {a0 : Addr} {outs : List D} {elt : Expr} {d : D} {E : Value → Shared → Prop} {P : Value → Shared → Prop} (F : FS cenv b s vars (some ("", .acc a0 outs))) (x : EvN prog w A cenv b.heap s.heap elt d) (hz : outs.length ≤ sizeLine)
    (W : List Addr) (hb : ∀ a ∈ W, b.heap.get? a = none) (hs : ∀ a ∈ W, ∃ o, s.heap.get? a = some o)
    (c : ∀ g s', Up b g → (∀ a ∈ W, g.heap.get? a = none) → (∀ a o, a ≠ a0 → s.heap.get? a = some o → s'.heap.get? a = some o) → FS cenv g s' (stab vars) (some ("", .acc a0 (outs ++ [d]))) → P .none s') :
    wpAny (model prog w) A (eval elt cenv) (fun v s' => wpAny (model prog w) A (call (.builtin "list.append") [.ref a0, v]) P E s') E s := by
  refine x.run s _ E (stays_refl _) fun v s1 k1 r1 => ?_
  have F1 := F.step k1
  obtain ⟨g, ug, stg, gW, FG, all⟩ := F1.rebaseZ W hb
  obtain ⟨a, hl, fr, ys, pl, ry⟩ := FG.own "" _ rfl
  have haa : a = a0 := hl
  subst haa
  obtain ⟨a', hl', fr', ys', pl', ry'⟩ := F.own "" _ rfl
  have haa' : a' = a := hl'
  subst haa'
  have rv : Rep g.heap v d := by
    refine r1.mono fun c o e q => all c o (fun hm => ?_) (nw_in c o e) fun hm => ?_
    · obtain ⟨o2, e2⟩ := nw_not e (hs c hm)
      rw [hb c hm] at e2; cases e2
    rcases hm with rfl | ⟨hf, x, hx⟩ | ⟨x, od, h1, h2, h3, h4⟩
    · obtain ⟨m, o', es, ep, ho', hd', _⟩ := F1.locs
      obtain ⟨xs, n, q⟩ := q
      rw [nw_in _ _ e] at ho'; cases ho'; rw [hd'] at q; cases q
    · obtain ⟨_, v', o', ho', hd'⟩ := F1.cells hf x c hx
      obtain ⟨xs, n, q⟩ := q
      rw [nw_in _ _ e] at ho'; cases ho'; rw [hd'] at q; cases q
    · cases h1
      have hca : c = a' := h2
      subst hca
      obtain ⟨n, pn⟩ := pl'
      obtain ⟨o2, e2⟩ := nw_not e ⟨_, pn⟩
      rw [fr'] at e2; cases e2
  refine wpAny_list_append_plain pl (fun h' pl2 hs2 => ?_) (by rw [size_of_repL ry]; exact hz)
  refine c g _ ⟨ug, stg⟩ gW (fun a o ha e => (hs2.2 a ha).trans (keeps_stays k1 a o e)) ?_
  have hne : ∀ m b, s1.heap.Ns b m → b ≠ a' := fun m b hn => Ne.symm (plainList_ne_ns pl hn)
  have hnc : ∀ v c, s1.heap.IsCell c v → c ≠ a' := fun v c hn => Ne.symm (plainList_ne_cell pl hn)
  have look : ∀ y v, LookV cenv s1.heap y v → LookV cenv h' y v := fun y v l => by
    rcases l with ⟨a1, m, c, d⟩ | ⟨a1, cc, c, d⟩
    · exact .inl ⟨a1, m, c.sameBut hs2 (hne _ _ c), d⟩
    · exact .inr ⟨a1, cc, c, d.sameBut hs2 (hnc _ _ d)⟩
  have keep : g.heap.StaysIn h' := fun b o e => (hs2.2 b (by rintro rfl; rw [fr] at e; cases e)).trans (FG.keep b o e)
  obtain ⟨h0, t0, e0⟩ := FG.same
  refine ⟨⟨h', s1.toks, by rw [e0]⟩, ⟨keep, fun y f d' e => ?_⟩, FG.fresh, ?_, fun hf y c e => ?_, FG.capart, fun y es e => ?_⟩
  · obtain ⟨hf, e'⟩ := keepS_look e
    simp only at hf
    subst hf
    obtain ⟨v', lv, _, rb⟩ := FG.vs.get y true d' e'
    exact ⟨v', look _ _ lv, (rb rfl).stays keep, rb⟩
  · obtain ⟨m, hm⟩ := FG.locs
    exact ⟨m, hm.sameBut hs2 (hne _ _ hm)⟩
  · obtain ⟨a1, v', q⟩ := FG.cells hf y c e
    exact ⟨a1, v', q.sameBut hs2 (hnc _ _ q)⟩
  · cases e
    refine ⟨a', rfl, fr, _, pl2, ?_⟩
    rw [Array.toList_push]
    exact RepL.append (.one rv) ry
/-- a pair of flat data taken apart into two names -/
theorem st_pairZ {x y : Str} {p q tp : Pos} {k : Nat} {T : Addr} {v1 v2 : Value} {d1 d2 : D} {Q : Unit → Shared → Prop} {E : Value → Shared → Prop} (hh : A.handled = none) (F : FS env b s vars own) (ht : s.heap.IsTuple T #[v1, v2]) (r1 : Rep s.heap v1 d1) (r2 : Rep s.heap v2 d2)
    (f1 : d1.flat = true) (f2 : d2.flat = true) (hst : (storable env x && storable env y) = true) (hno : (notOwn own x && notOwn own y) = true)
    (c : ∀ s', FS env b s' ((y, (true, d2)) :: (x, (true, d1)) :: vars) own → (∀ a o, s.heap.get? a = some o → a ≠ env.locals → (∀ u, o.data ≠ .cell u) → s'.heap.get? a = some o) → Q () s') :
    wpAny (model prog w) A (assign (.Tuple [.Name x p, .Name y q] k tp) env (.ref T)) Q E s := by
  simp only [Bool.and_eq_true] at hst hno
  refine wpAny_assign_Tuple hh ht (by rfl) rfl fun h' hx => ?_
  have st : s.heap.StaysIn h' := fun a o q => hx a o (Nat.ne_of_lt (Heap.lt_size q)) q
  have k1 : Keeps s { s with heap := h' } := keeps_heap st
  refine assignInOrder_cons (wpAny_assign_Name (st_store3 (b := true) (F.step k1) (r1.stays st) (fun _ => r1.anyHeap f1) (storable_of hst.1).1 (storable_of hst.1).2 (notOwn_of hno.1) fun s1 _ u1 _ F1 => ?_))
  refine assignInOrder_cons (wpAny_assign_Name (st_store3 (b := true) F1 (r2.anyHeap f2) (fun _ => r2.anyHeap f2) (storable_of hst.2).1 (storable_of hst.2).2 (notOwn_of hno.2) fun s2 _ u2 _ F2 => ?_))
  exact assignInOrder_nil (c s2 F2 fun a o e hn hc => u2 a o (u1 a o (st a o e) hn hc) hn hc)
/-- a comprehension's frame, W left out of the base -/
theorem comp_frameZ {scope : Scope} {s1 : Shared} {E : Value → Shared → Prop} {P : Value → Env → Shared → Prop} {wr : List Addr} {h h₀ : Heap} (V : VS env h₀ h vars) (hsub : h.StaysIn s1.heap) (hwr : ∀ a ∈ wr, h.get? a = none)
    (hcell : (scope.names.all fun x => decide (x.2 ≠ .cell)) = true) (hkind : scope.kind = .function)
    (c : ∀ a0 C b0 h1, s1.heap.get? a0 = none → s1.heap.get? C = none → (∃ h, b0 = { s1 with heap := h }) → (∀ a o, a ∉ wr → s1.heap.get? a = some o → b0.heap.get? a = some o) → (∀ a ∈ wr, b0.heap.get? a = none) → s1.heap.StaysIn h1 →
      FS (cEnv scope C env) b0 { s1 with heap := h1 } (cVars env scope vars) (some ("", .acc a0 [])) → P (.ref a0) (cEnv scope C env) { s1 with heap := h1 }) :
    wpAny (model prog w) A (newList []) (fun acc s₃ => wpAny (model prog w) A (newFunctionEnv scope env.globals (closF env.cells scope.names []) [] env.qual none .none (some env)) (fun cenv s₄ => P acc { cenv with scope := relabel scope env } s₄) E s₃) E s1 := by
  refine wpAny_newObj_type (wpAny_newFunctionEnv (fun x hx => of_decide_eq_true (List.all_eq_true.mp hcell x hx)) (by intro y hy; simp at hy) (fun h₁ hns₁ hsb₁ => ?_) hkind)
  dsimp only at hns₁ hsb₁ ⊢
  generalize hH2 : s1.heap.push { cls := .type "list", dict := none, data := .seq ([] : List Value).toArray } = H2 at hns₁ hsb₁ ⊢
  have hC : H2.objs.size = s1.heap.objs.size + 1 := by rw [← hH2, Heap.size_push]
  have below : ∀ b, b < s1.heap.objs.size → b ≠ H2.objs.size ∧ b ≠ s1.heap.objs.size := fun b hb => ⟨by rw [hC]; exact Nat.ne_of_lt (Nat.lt_succ_of_lt hb), Nat.ne_of_lt hb⟩
  have old : ∀ b o, s1.heap.get? b = some o → h₁.get? b = some o := fun b o e => hsb₁.extBut b o (below b (Heap.lt_size e)).1 (Heap.get?_push_of_some _ (hH2 ▸ Heap.get?_push_of_some _ e))
  have hDC : s1.heap.objs.size ≠ H2.objs.size := by rw [hC]; exact Nat.ne_of_lt (Nat.lt_succ_self _)
  have hacc : h₁.PlainList s1.heap.objs.size #[] := ⟨_, hsb₁.extBut _ _ hDC (Heap.get?_push_of_some _ (hH2 ▸ Heap.get?_push_size _ rfl))⟩
  have fresh : ∀ a, s1.heap.objs.size ≤ a → s1.heap.get? a = none := fun a ha => by
    cases e : s1.heap.get? a with
    | none => rfl
    | some o' => exact absurd (Heap.lt_size e) (Nat.not_lt.mpr ha)
  have hCn : s1.heap.get? H2.objs.size = none := fresh _ (by rw [hC]; exact Nat.le_succ _)
  have hAn : s1.heap.get? s1.heap.objs.size = none := fresh _ (Nat.le_refl _)
  have hid : ∀ a o, a ∉ wr → s1.heap.get? a = some o → (hideAll s1.heap wr).get? a = some o := fun a o hn e => hideAll_get _ e hn
  have nn : ∀ a, s1.heap.get? a = none → (hideAll s1.heap wr).get? a = none := fun a e => by
    cases q : (hideAll s1.heap wr).get? a with
    | none => rfl
    | some o => have := of_hideAll wr q; rw [e] at this; cases this
  have hb : h.StaysIn (hideAll s1.heap wr) := fun a o e => hid a o (fun hm => by rw [hwr a hm] at e; cases e) (hsub a o e)
  refine c s1.heap.objs.size H2.objs.size { s1 with heap := hideAll s1.heap wr } h₁ hAn hCn ⟨_, rfl⟩ hid (fun a ha => hideAll_none _ ha) old
    ⟨⟨h₁, s1.toks, rfl⟩, ⟨fun a o e => old a o (of_hideAll _ e), fun x f d e => ?_⟩, nn _ hCn, ⟨_, hns₁⟩, fun hf => (by cases hf), fun hf => (by cases hf), fun x od e => ?_⟩
  · obtain ⟨_, _, _, b', e'⟩ := cVars_look e
    obtain ⟨v, l, r, _⟩ := V.get x b' d e'
    exact ⟨v, cLook e l (stays_trans hsub old), r.stays (stays_trans hsub old), fun _ => r.stays hb⟩
  · cases e
    exact ⟨_, rfl, nn _ hAn, #[], hacc, .nil⟩
end
end Mine

end
noncomputable section
open PySem PySem.Calls PySem.W PyProof.Rows
set_option maxRecDepth 100000
set_option maxHeartbeats 1000000
namespace Mine
section
variable {prog : Program} {w : World} {A : Around} {env : Env} {h h₀ : Heap} {vars : Vars} {s : Shared}
/-- the state of zip over two lists -/
noncomputable abbrev ZSt (z TI TO i1 i2 l1 l2 : Addr) (xs ys : Array Value) (i : Nat) (h : Heap) : Prop :=
  IsZip h z TI TO .none ∧ IsPair h TI (.ref i1) (.ref i2) ∧ (∃ a b, IsPair h TO a b) ∧ h.IsListIter i1 l1 i ∧ h.IsListIter i2 l2 i ∧ h.IsList l1 xs ∧ h.IsList l2 ys
theorem ZSt.scr {z TI TO i1 i2 l1 l2 : Addr} {xs ys : Array Value} {i : Nat} {h : Heap} (st : ZSt z TI TO i1 i2 l1 l2 xs ys i h) : ∀ a ∈ [z, TO, i1, i2], ∃ o, h.get? a = some o ∧ Scr o := fun a ha => by
  obtain ⟨hz, hTI, ⟨x, y, hTO⟩, ⟨o1, e1, _, d1⟩, ⟨o2, e2, _, d2⟩, _, _⟩ := st
  simp only [List.mem_cons, List.not_mem_nil, or_false] at ha
  rcases ha with rfl | rfl | rfl | rfl
  · exact ⟨_, hz, .inl ⟨_, rfl⟩⟩
  · exact ⟨_, hTO, .inr ⟨rfl, _, _, rfl⟩⟩
  · exact ⟨_, e1, .inl ⟨_, d1⟩⟩
  · exact ⟨_, e2, .inl ⟨_, d2⟩⟩
theorem ZSt.objs {z TI TO i1 i2 l1 l2 : Addr} {xs ys : Array Value} {i : Nat} {h : Heap} (st : ZSt z TI TO i1 i2 l1 l2 xs ys i h) : ∀ a ∈ [z, TI, TO, i1, i2, l1, l2], ∃ o, h.get? a = some o ∧ ((∃ vs, o.data = .fields vs) ∨ ∃ xs n, o.data = .seq xs n) := fun a ha => by
  obtain ⟨hz, hTI, ⟨x, y, hTO⟩, ⟨o1, e1, _, d1⟩, ⟨o2, e2, _, d2⟩, ⟨o3, e3, _, n3, d3⟩, ⟨o4, e4, _, n4, d4⟩⟩ := st
  simp only [List.mem_cons, List.not_mem_nil, or_false] at ha
  rcases ha with rfl | rfl | rfl | rfl | rfl | rfl | rfl
  · exact ⟨_, hz, .inl ⟨_, rfl⟩⟩
  · exact ⟨_, hTI, .inr ⟨_, _, rfl⟩⟩
  · exact ⟨_, hTO, .inr ⟨_, _, rfl⟩⟩
  · exact ⟨_, e1, .inl ⟨_, d1⟩⟩
  · exact ⟨_, e2, .inl ⟨_, d2⟩⟩
  · exact ⟨_, e3, .inr ⟨_, _, d3⟩⟩
  · exact ⟨_, e4, .inr ⟨_, _, d4⟩⟩
/-- it stands where all but the own list stays -/
theorem ZSt.past {z TI TO i1 i2 l1 l2 a0 : Addr} {xs ys : Array Value} {i : Nat} {h h' : Heap} {us : Array Value} (W : WalksT prog w A z [z, TI, TO, i1, i2, l1, l2] [z, TO, i1, i2] (min xs.size ys.size)
      (fun i vals => ∃ x y, xs[i]? = some x ∧ ys[i]? = some y ∧ vals = #[x, y]) (ZSt z TI TO i1 i2 l1 l2 xs ys)
      (fun i T h => IsZip h z TI TO (rawInt T) ∧ IsPair h TI (.ref i1) (.ref i2) ∧ (∃ a b, IsPair h TO a b) ∧ h.IsListIter i1 l1 (i + 1) ∧ h.IsListIter i2 l2 (i + 1) ∧ h.IsList l1 xs ∧ h.IsList l2 ys ∧ T ≠ z ∧ T ≠ TO ∧ T ≠ i1 ∧ T ≠ i2))
    (st : ZSt z TI TO i1 i2 l1 l2 xs ys i h) (pl : h.PlainList a0 us) (h1 : l1 ≠ a0) (h2 : l2 ≠ a0) (k : ∀ a o, a ≠ a0 → h.get? a = some o → h'.get? a = some o) : ZSt z TI TO i1 i2 l1 l2 xs ys i h' := by
  refine W.frame i h h' st fun a ha o e => k a o ?_ e
  rintro rfl
  obtain ⟨n, p⟩ := pl
  obtain ⟨hz, hTI, ⟨x, y, hTO⟩, ⟨o1, e1, _, d1⟩, ⟨o2, e2, _, d2⟩, _, _⟩ := st
  simp only [List.mem_cons, List.not_mem_nil, or_false] at ha
  rcases ha with rfl | rfl | rfl | rfl | rfl | rfl | rfl
  · have := p.symm.trans hz; simp at this
  · have := p.symm.trans hTI; simp at this
  · have := p.symm.trans hTO; simp at this
  · rw [p] at e1; cases e1; cases d1
  · rw [p] at e2; cases e2; cases d2
  · exact h1 rfl
  · exact h2 rfl
theorem int_at {g : Heap} {vs : Array Value} {ns : List Int} (r : RepL g vs.toList (ns.map .int)) {i : Nat} {v : Value} {n : Int} (hv : vs[i]? = some v) (hn : ns[i]? = some n) : ∃ t, v = .int n t := by
  obtain ⟨u, hu, ru⟩ := r.get (i := i) (d := .int n) (by rw [List.getElem?_map, hn]; rfl)
  have : vs.toList[i]? = some v := by simpa using hv
  rw [this] at hu; cases hu
  cases ru using Rep.intE with | int t => exact ⟨t, rfl⟩

/-- a comprehension over zip(e1, e2), both lists of ints: from its source on -/
theorem zip_core {elt e1 e2 : Expr} {x y : Str} {px py pz tp zpos pos : Pos} {kk : Nat} {scope : Scope} {as bs : List Int} (f : Int × Int → D) (V : VS env h₀ h vars) (hh : A.handled = none)
    (nz : NameIs prog w A env h "zip" (.type "zip")) (y1 : Ev prog w A env h e1 (.lst (as.map .int))) (y2 : Ev prog w A env h e2 (.lst (bs.map .int))) (hz : as.length ≤ sizeLine)
    (hx : scope.names.lookup x = some .local) (hy : scope.names.lookup y = some .local)
    (each : ∀ C a0 b s' outs p, p ∈ as.zip bs → h.StaysIn b.heap → FS (cEnv scope C env) b s' ((y, (true, .int p.2)) :: (x, (true, .int p.1)) :: cVars env scope vars) (some (("" : Str), OD.acc a0 outs)) → EvN prog w A (cEnv scope C env) b.heap s'.heap elt (f p))
    (hst : noStar [e1, e2] = true) (hcell : (scope.names.all fun x => decide (x.2 ≠ .cell)) = true) (hkind : scope.kind = .function) (hempty : scope.names.lookup ("" : Str) = none)
    {E : Value → Shared → Prop} {RR : Value → Addr → Result → Shared → Prop} (q : h.StaysIn s.heap)
    (hRR : ∀ a0 C b s4, s.heap.get? a0 = none → s.heap.get? C = none → a0 ≠ C → Keeps s s4 → s.heap.StaysIn b.heap → FS (cEnv scope C env) b s4 (cVars env scope vars) (some (("" : Str), OD.acc a0 ((as.zip bs).map f))) → RR (.ref a0) C (.ok .next) s4) :
    wpAny (model prog w) A (eval (.Call (.Name "zip" pz) [e1, e2] [] zpos) env) (fun v s₁ => wpAny (model prog w) A (pyIter v) (fun it s₂ => wpAny (model prog w) A (newList []) (fun acc s₃ => wpAny (model prog w) A (newFunctionEnv scope env.globals (closF env.cells scope.names []) [] env.qual none .none (some env)) (fun cenv s₄ =>
      codeAny (model prog w) A (.compStart (.ListComp elt [⟨.Tuple [.Name x px, .Name y py] kk tp, .Call (.Name "zip" pz) [e1, e2] [] zpos, [], 0⟩] scope pos) 0 it acc { cenv with scope := relabel scope env }) (RR acc cenv.locals) s₄) E s₃) E s₂) E s₁) E s := by
  have he1 : starEach (e1 :: [e2]) env = (false, eval e1 env) :: starEach [e2] env := by
    cases e1 <;> first | rfl | cases hst
  have he2 : starEach (e2 :: []) env = (false, eval e2 env) :: starEach [] env := by
    cases e2 <;> first | rfl | (cases e1 <;> cases hst)
  have hns : ∀ nm : Str, scope.names.lookup nm = some .local → (("" : Str) == nm) = false := fun nm hnm => by
    cases hq : (("" : Str) == nm) with
    | false => rfl
    | true => exact absurd hnm (by rw [← beq_iff_eq.mp hq, hempty]; simp)
  refine wpAny_bind (nz.run pz s _ E q (callWith_any hst (.type _) (args_cons (y1.run s _ E q fun v1 s1 k1 r1 => args_cons (y2.run s1 _ E (stays_trans q (keeps_stays k1)) fun v2 s2 k2 r2 => args_nil ⟨keeps_stays (keeps_trans k1 k2), ?_⟩) he2) he1)))
  have r1' := r1.stays (keeps_stays k2)
  cases r1' using Rep.lstE with
  | lst p1 q1 =>
  rename_i l1 xs
  cases r2 using Rep.lstE with
  | lst p2 q2 =>
  rename_i l2 ys
  have k12 := keeps_trans k1 k2
  obtain ⟨m1, hp1⟩ := id p1
  obtain ⟨m2, hp2⟩ := id p2
  refine call_zip_2 p1.isList p2.isList fun h' hz0 hTI hTO hi1 hi2 hsz hk => ?_
  have hlt1 := Heap.lt_size hp1
  have hlt2 := Heap.lt_size hp2
  have DD := zipApart_new hlt1 hlt2
  have hsx := size_of_repL q1
  have hsy := size_of_repL q2
  rw [List.length_map] at hsx hsy
  generalize hN : s2.heap.objs.size = N at hz0 hTI hTO hi1 hi2 hsz DD hlt1 hlt2
  have W := WalksT.zip2 (prog := prog) (w := w) (A := A) hh (N + 4) (N + 2) (N + 3) N (N + 1) l1 l2 DD xs ys
  generalize hzz : N + 4 = z at *
  generalize hti : N + 2 = TI at *
  generalize hto : N + 3 = TO at *
  generalize hii : N + 1 = i2 at *
  have st0 : ZSt z TI TO N i2 l1 l2 xs ys 0 h' := ⟨hz0, hTI, ⟨_, _, hTO⟩, hi1, hi2, p1.isList.at fun o e => hk _ o e, p2.isList.at fun o e => hk _ o e⟩
  have kS : Keeps s { s2 with heap := h' } := keeps_trans k12 (keeps_heap fun a o e => hk a o e)
  refine wpAny_pyIter_zip hz0 ?_
  have wrN : ∀ a ∈ [z, TO, N, i2], s2.heap.get? a = none := fun a ha => Heap.get?_none_of_le (by
    simp only [List.mem_cons, List.not_mem_nil, or_false] at ha
    rw [hN]; omega)
  have wrS : ∀ a ∈ [z, TO, N, i2], s.heap.get? a = none := fun a ha => none_stays (keeps_stays k12) (wrN a ha)
  have nw0 : ∀ a, h'.get? a = none → s.heap.get? a = none := fun a e => none_stays (keeps_stays kS) e
  refine comp_frameZ (s1 := { s2 with heap := h' }) (P := fun acc cenv s₄ => codeAny (model prog w) A (.compStart (.ListComp elt [⟨.Tuple [.Name x px, .Name y py] kk tp, .Call (.Name "zip" pz) [e1, e2] [] zpos, [], 0⟩] scope pos) 0 (.ref z) acc cenv) (RR acc cenv.locals) s₄) V (stays_trans q (keeps_stays kS)) (fun a ha => none_stays q (wrS a ha)) hcell hkind
    fun a0 C b0 h1 ha0 hC ⟨hb0, eb0⟩ hsub bw0 hs1 F0 => ?_
  have hsb : s.heap.StaysIn b0.heap := fun a o e => hsub a o (fun hm => by rw [wrS a hm] at e; cases e) (keeps_stays kS a o e)
  have nl1 : l1 ∉ [z, TO, N, i2] := fun hm => by rw [wrN l1 hm] at hp1; cases hp1
  have nl2 : l2 ∉ [z, TO, N, i2] := fun hm => by rw [wrN l2 hm] at hp2; cases hp2
  have bl1 := hsub l1 _ nl1 (hk _ _ hp1)
  have bl2 := hsub l2 _ nl2 (hk _ _ hp2)
  have loop : ∀ s₃ : Shared, s₃ = { s2 with heap := h1 } → codeAny (model prog w) A (.compLoop (.ListComp elt [⟨.Tuple [.Name x px, .Name y py] kk tp, .Call (.Name "zip" pz) [e1, e2] [] zpos, [], 0⟩] scope pos) 0 (.ref z) (.ref a0) (cEnv scope C env)) (RR (.ref a0) C) s₃ := by
    rintro s₃ rfl
    have hmin : min xs.size ys.size = (as.zip bs).length := by rw [List.length_zip, hsx, hsy]
    refine codeAny_loop rfl (fun n s' => ∃ i b, Up b0 b ∧ (∀ a ∈ [z, TO, N, i2], b.heap.get? a = none) ∧ FS (cEnv scope C env) b s' (cVars env scope vars) (some ("", .acc a0 (((as.zip bs).take i).map f))) ∧ ZSt z TI TO N i2 l1 l2 xs ys i s'.heap ∧ i ≤ (as.zip bs).length ∧ n = (as.zip bs).length - i) (fun n s' hI => ?_) (as.zip bs).length
      ⟨0, b0, .refl _, bw0, F0, W.frame _ _ _ st0 fun a _ o e => hs1 a o e, Nat.zero_le _, rfl⟩
    obtain ⟨i, b, ub, bw, FB, hSt, hi, rfl⟩ := hI
    show wpAny _ A ((compTurn (.ListComp elt [⟨.Tuple [.Name x px, .Name y py] kk tp, .Call (.Name "zip" pz) [e1, e2] [] zpos, [], 0⟩] scope pos) 0 (.ref z) (.ref a0) (cEnv scope C env)).onRaise (fun x => do noteFrame x (cEnv scope C env); theTreesLotGoes x)) _ _ s'
    refine wpAny_noted ?_
    rw [compTurn_one]
    refine wpAny_bind (wpAny_standAt (wpAny_bind ?_))
    by_cases hlt : i < (as.zip bs).length
    · refine W.item i s' _ _ (by rw [hmin]; exact hlt) hSt fun T vals h2 tk2 hP hTs hT2 mid hk2 => ?_
      obtain ⟨x', y', hx', hy', rfl⟩ := hP
      have hlz := hlt
      rw [List.length_zip] at hlz
      have ha : as[i]? = some as[i] := List.getElem?_eq_getElem (by omega)
      have hb' : bs[i]? = some bs[i] := List.getElem?_eq_getElem (by omega)
      obtain ⟨t1, rfl⟩ := int_at q1 hx' ha
      obtain ⟨t2, rfl⟩ := int_at q2 hy' hb'
      have hp : (as.zip bs)[i]? = some (as[i], bs[i]) := by rw [List.getElem?_eq_getElem hlt, List.getElem_zip]
      have F2 := FB.changeT (tk := tk2) (fun y p e => cVars_true e) [z, TO, N, i2] hSt.scr bw hk2
      refine wpAny_bind (W.go _ _ _ i T _ _ _ mid fun h3 hSt3 hk3 => ?_)
      have mscr : ∀ a ∈ [z, TO, N, i2], ∃ o, h2.get? a = some o ∧ Scr o := fun a ha => by
        obtain ⟨hz, hTI, ⟨x, y, hTO⟩, ⟨o1, e1, _, d1⟩, ⟨o2, e2, _, d2⟩, _⟩ := mid
        simp only [List.mem_cons, List.not_mem_nil, or_false] at ha
        rcases ha with rfl | rfl | rfl | rfl
        · exact ⟨_, hz, .inl ⟨_, rfl⟩⟩
        · exact ⟨_, hTO, .inr ⟨rfl, _, _, rfl⟩⟩
        · exact ⟨_, e1, .inl ⟨_, d1⟩⟩
        · exact ⟨_, e2, .inl ⟨_, d2⟩⟩
      have F3 := F2.changeT (tk := tk2) (fun y p e => cVars_true e) [z, TO, N, i2] mscr bw hk3
      have hTw : T ∉ [z, TO, N, i2] := W.apart i T h2 mid
      have hT3 : h3.IsTuple T #[.int as[i] t1, .int bs[i] t2] := hT2.at fun o e => hk3 T o hTw e
      refine wpAny_bind (st_pairZ hh F3 hT3 (.int _ _) (.int _ _) rfl rfl (by rw [storable_local hkind hx, storable_local hkind hy]; rfl) (by
        show (!(("" : Str) == x) && !(("" : Str) == y)) = true
        rw [hns x hx, hns y hy]; rfl) fun s4 F4 u4 => ?_)
      obtain ⟨mL, hmL⟩ := F3.locs
      have notL : ∀ a ∈ [z, TI, TO, N, i2, l1, l2], ∀ o, h3.get? a = some o → a ≠ (cEnv scope C env).locals ∧ ∀ u, o.data ≠ .cell u := fun a ha o e => by
        obtain ⟨o', e', d'⟩ := (show ZSt z TI TO N i2 l1 l2 xs ys (i + 1) h3 from hSt3).objs a ha
        rw [e] at e'; cases e'
        refine ⟨?_, fun u hu => ?_⟩
        · rintro rfl
          obtain ⟨o5, es, ep, ho5, hd5, _⟩ := hmL
          have ho6 := e.symm.trans ho5
          cases ho6
          rcases d' with ⟨vs, d'⟩ | ⟨a1, a2, d'⟩ <;> (rw [hd5] at d'; cases d')
        · rcases d' with ⟨vs, d'⟩ | ⟨a1, a2, d'⟩ <;> (rw [hu] at d'; cases d')
      have hSt4 : ZSt z TI TO N i2 l1 l2 xs ys (i + 1) s4.heap := W.frame _ _ _ hSt3 fun a ha o e => u4 a o e (notL a ha o e).1 (notL a ha o e).2
      have hlen : (((as.zip bs).take i).map f).length ≤ sizeLine := by
        rw [List.length_map, List.length_take]
        exact Nat.le_trans (Nat.min_le_left _ _) (by omega)
      have hbs : h.StaysIn b.heap := stays_trans q (stays_trans hsb ub.2)
      have hel := each C a0 b s4 _ (as[i], bs[i]) (List.mem_of_getElem? hp) hbs F4
      refine wpAny_bind (wpAny_bind (ts_nil.run s4 _ _ (stays_refl _) fun s5 k5 => ?_))
      rw [if_pos rfl]
      have F5 := F4.step k5
      have hel5 := each C a0 b s5 _ (as[i], bs[i]) (List.mem_of_getElem? hp) hbs F5
      have hSt5 : ZSt z TI TO N i2 l1 l2 xs ys (i + 1) s5.heap := W.frame _ _ _ hSt4 fun a ha o e => keeps_stays k5 a o e
      obtain ⟨aa, hl0, fr0, us, pl0, _⟩ := F5.own "" _ rfl
      have haa : aa = a0 := hl0
      subst haa
      refine wpAny_bind (wpAny_mono (emit_oneZ (P := fun _ s6 => ∃ i' b', Up b0 b' ∧ (∀ a ∈ [z, TO, N, i2], b'.heap.get? a = none) ∧ FS (cEnv scope C env) b' s6 (cVars env scope vars) (some ("", .acc aa (((as.zip bs).take i').map f))) ∧ ZSt z TI TO N i2 l1 l2 xs ys i' s6.heap ∧ i' ≤ (as.zip bs).length ∧ i < i') F5 hel5 hlen [z, TO, N, i2] bw (fun a ha => let ⟨o, e, _⟩ := hSt5.scr a ha; ⟨o, e⟩) fun g s6 ug gw kk6 F6 => ?_) (fun v s6 h6 => wpAny_bind (wpAny_mono h6 (fun _ s7 h7 => wpAny_pure ?_) fun _ _ x => x)) fun _ _ x => x)
      · refine ⟨i + 1, g, ub.trans ug, gw, ?_, hSt5.past W pl0 (by rintro rfl; have := ub.2 _ _ bl1; rw [fr0] at this; cases this) (by rintro rfl; have := ub.2 _ _ bl2; rw [fr0] at this; cases this) kk6, hlt, Nat.lt_succ_self i⟩
        rw [List.take_add_one, hp, Option.toList_some, List.map_append]
        refine F6.weaken fun nm p e => ?_
        exact flag_stab (fl := true) (bs := [(y, .int bs[i]), (x, .int as[i])]) (fun y' q' hq => ⟨cVars_true hq, lookup_none_of (scope := scope) (fun p hp => by
          simp only [List.mem_cons, List.not_mem_nil, or_false] at hp
          rcases hp with rfl | rfl
          · exact hy
          · exact hx) (cVars_look hq).1⟩) e
      · obtain ⟨i', b', u', w', F', S', le', lt'⟩ := h7
        exact wpAny_pure ⟨rfl, _, Nat.sub_lt_sub_left hlt lt', i', b', u', w', F', S', le', rfl⟩
    · have hie : i = (as.zip bs).length := by omega
      subst hie
      refine W.done s' _ _ (by rw [hmin]; exact hSt) fun h2 tk2 hk2 => wpAny_pure ?_
      have F2 := FB.changeT (tk := tk2) (fun y p e => cVars_true e) [z, TO, N, i2] hSt.scr bw hk2
      rw [List.take_length] at F2
      have hkeep : s.heap.StaysIn b.heap := stays_trans hsb ub.2
      obtain ⟨h3, e3⟩ := ub.1
      obtain ⟨h4, t4, e4⟩ := F2.same
      obtain ⟨h5, t5, e5, _⟩ := id k12
      have hks : Keeps s { s' with heap := h2, toks := tk2 } := ⟨h4, t4, by rw [e4, e3, eb0, e5], by have := stays_trans hkeep F2.keep; rw [e4] at this; exact this⟩
      refine hRR a0 C b _ (nw0 _ ha0) (nw0 _ hC) ?_ hks hkeep F2
      rintro rfl
      obtain ⟨a', hl', fr', ys', pl', ry'⟩ := F2.own "" _ rfl
      obtain ⟨m, hm⟩ := F2.locs
      exact plainList_ne_ns pl' hm hl'
  exact codeAny_compStart_list (loop _ rfl) (W.self 0 _ _ _ (W.frame _ _ _ st0 fun a _ o e => hs1 a o e) (loop _ rfl))

theorem ex_zip {s₀ : Shared} {own : Own} {elt e1 e2 : Expr} {x y z : Str} {px py pz tp zpos pos spos qz : Pos} {kk : Nat} {scope : Scope} {as bs : List Int} {Q : Flow → Shared → Prop} {E : Value → Shared → Prop} {rest : List Stmt} (f : Int × Int → D) (F : FS env s₀ s vars own) (hh : A.handled = none)
    (nz : NameIs prog w A env s.heap "zip" (.type "zip")) (y1 : Ev prog w A env s.heap e1 (.lst (as.map .int))) (y2 : Ev prog w A env s.heap e2 (.lst (bs.map .int))) (hz : as.length ≤ sizeLine)
    (hx : scope.names.lookup x = some .local) (hy : scope.names.lookup y = some .local)
    (each : ∀ C a0 b s' outs p, p ∈ as.zip bs → s.heap.StaysIn b.heap → FS (cEnv scope C env) b s' ((y, (true, .int p.2)) :: (x, (true, .int p.1)) :: cVars env scope vars) (some (("" : Str), OD.acc a0 outs)) → EvN prog w A (cEnv scope C env) b.heap s'.heap elt (f p))
    (c : ∀ b s', Up s₀ b → FS env b s' ((z, (own.isNone || ((as.zip bs).map f).all D.flat, .lst ((as.zip bs).map f))) :: vars) own → wpAny (model prog w) A (execs rest env) Q E s')
    (hst : noStar [e1, e2] = true := by rfl) (hsto : storable env z = true := by rfl) (hno : notOwn own z = true := by rfl)
    (hsw : swapsWith (.ListComp elt [⟨.Tuple [.Name x px, .Name y py] kk tp, .Call (.Name "zip" pz) [e1, e2] [] zpos, [], 0⟩] scope pos) (some (.Name z qz)) spos.line env = pure true := by rfl)
    (hcell : (scope.names.all fun x => decide (x.2 ≠ .cell)) = true := by rfl) (hkind : scope.kind = .function := by rfl) (hempty : scope.names.lookup ("" : Str) = none := by rfl)
    (hclos : closOk env.cells scope.names = true := by rfl) (hnames : (scope.names.all fun y => !(y.2 == .local) || (scope.names.lookup y.1 == some .local)) = true := by rfl)
    (hs : ∀ v, foldedSetIterable (.Call (.Name "zip" pz) [e1, e2] [] zpos) env v = pure v := by intro _; rfl) :
    wpAny (model prog w) A (execs (.Assign [.Name z qz] (.ListComp elt [⟨.Tuple [.Name x px, .Name y py] kk tp, .Call (.Name "zip" pz) [e1, e2] [] zpos, [], 0⟩] scope pos) spos :: rest) env) Q E s := by
  have hn : ∀ y ∈ scope.names, y.2 = .local → scope.names.lookup y.1 = some .local := fun y hy e => by
    have := List.all_eq_true.mp hnames y hy
    rw [e] at this; simpa using this
  refine wpAny_execs_cons ?_
  rw [exec_Assign_Name_used _ _ _ _ hsw]
  refine wpAny_bind (wpAny_standAt (wpAny_bind ?_))
  show wpAny _ A (do let _ ← comprehension (.ListComp elt [⟨.Tuple [.Name x px, .Name y py] kk tp, .Call (.Name "zip" pz) [e1, e2] [] zpos, [], 0⟩] scope pos) scope env _ (newList []) false (eval (.Call (.Name "zip" pz) [e1, e2] [] zpos) env) (some (assign (.Name z qz) env))) _ _ s
  refine wpAny_bind (wpAny_mono (wpAny_comprehension_free (use := some (assign (.Name z qz) env)) (Q := fun _ s' => wpAny (model prog w) A (execs rest env) Q E s') rfl hs (closureFor_eq hclos) hkind hn
    (zip_core (RR := fun acc C => compPost (model prog w) A E (some (assign (.Name z qz) env)) (fun _ s' => wpAny (model prog w) A (execs rest env) Q E s') acc C) f F.vs hh nz y1 y2 hz hx hy each hst hcell hkind hempty (stays_refl _) ?_)) (fun _ s' hq => wpAny_pure (wpAny_pure hq)) fun _ _ e => e)
  intro a0 C b s4 ha hC hne hk hsb FC
  exact comp_store F ha hC hne hk hsb FC c hsto hno
end
end Mine

end
noncomputable section
open PySem PySem.Calls PySem.W PyProof.Rows
set_option maxRecDepth 100000
set_option maxHeartbeats 1000000
namespace Mine
section
variable {prog : Program} {w : World} {A : Around} {env : Env} {h h₀ : Heap} {vars : Vars} {s : Shared} {R : Result → Shared → Prop}
theorem codeAny_compStart_list1 {elt target iter ifs g0 scope pos it acc env}
    (h0 : codeAny (model prog w) A (.compLoop (.ListComp elt [g0, ⟨target, iter, ifs, 0⟩] scope pos) 1 it acc env) R s)
    (h : wpAny (model prog w) A (pyIter it) (fun it' s' => codeAny (model prog w) A (.compLoop (.ListComp elt [g0, ⟨target, iter, ifs, 0⟩] scope pos) 1 it' acc env) R s')
      (notedBy (model prog w) A env fun x s' => R (.error x) s') s) :
    codeAny (model prog w) A (.compStart (.ListComp elt [g0, ⟨target, iter, ifs, 0⟩] scope pos) 1 it acc env) R s := by
  refine codeAny_of_tree ?_
  show wpAny _ _ ((compStart (.ListComp elt [g0, ⟨target, iter, ifs, 0⟩] scope pos) 1 it acc env).onRaise (fun x => do noteFrame x env; standAt theWindowsPlace)) _ _ s
  refine wpAny_notedAt ?_
  unfold compStart
  show wpAny _ _ (ask >>= _) _ _ s
  refine wpAny_bind (wpAny_askSetting (wpAny_ite ?_))
  split
  · first
      | exact wpAny_bind (wpAny_pure (wpAny_pure (And.intro rfl h0)))
      | exact wpAny_pure (And.intro rfl h0)
  · first
      | exact wpAny_bind (wpAny_rule (wpAny_bind (wpAny_standAt (wpAny_bind (wpAny_mono h (fun it' s' h' => wpAny_pure (And.intro rfl h')) fun _ _ x => x)))))
      | (refine wpAny_bind (wpAny_rule ?_); show wpAny _ _ (standAt iter.pos >>= _) _ _ s; exact wpAny_bind (wpAny_standAt (wpAny_bind (wpAny_mono h (fun it' s' h' => wpAny_pure (And.intro rfl h')) fun _ _ x => x))))
/-- the turn of the outer clause of two -/
theorem compTurn_out (elt t0 i0 t1 i1 : Expr) (scope : Scope) (pos : Pos) (it acc : Value) (env : Env) :
    compTurn (.ListComp elt [⟨t0, i0, [], 0⟩, ⟨t1, i1, [], 0⟩] scope pos) 0 it acc env = (standAt i0.pos >>= fun _ => pyNext it >>= fun r => match r with
      | none => pure (.done .next)
      | some v => letOwnedTupleGo t0 it v >>= fun _ => assign t0 env v >>= fun _ =>
        (eval i1 env >>= fun x => standAt i1.pos >>= fun _ => foldedSetIterable i1 env x >>= fun x => holding [x] (pyIter x) >>= fun it' => runOwn (.compStart (.ListComp elt [⟨t0, i0, [], 0⟩, ⟨t1, i1, [], 0⟩] scope pos) 1 it' acc env) env >>= fun _ => pure ()) >>= fun _ =>
          again (.compLoop (.ListComp elt [⟨t0, i0, [], 0⟩, ⟨t1, i1, [], 0⟩] scope pos) 0 it acc env)) := by
  show (standAt i0.pos >>= fun _ => pyNext it >>= fun r => match r with
      | none => pure (.done .next)
      | some v => letOwnedTupleGo t0 it v >>= fun _ => assign t0 env v >>= fun _ =>
        (eval i1 env >>= fun x => standAt i1.pos >>= fun _ => foldedSetIterable i1 env x >>= fun x => holding [x] (pyIter x) >>= fun it' => runOwn (.compStart (.ListComp elt [⟨t0, i0, [], 0⟩, ⟨t1, i1, [], 0⟩] scope pos) 1 it' acc env) env >>= fun _ =>
          again (.compLoop (.ListComp elt [⟨t0, i0, [], 0⟩, ⟨t1, i1, [], 0⟩] scope pos) 0 it acc env))) = _
  refine congrArg (standAt i0.pos >>= ·) (funext fun _ => congrArg (pyNext it >>= ·) (funext fun r => ?_))
  cases r with
  | none => rfl
  | some v =>
    refine congrArg (letOwnedTupleGo t0 it v >>= ·) (funext fun _ => congrArg (assign t0 env v >>= ·) (funext fun _ => ?_))
    simp only [bind_assoc, pure_bind]
/-- the turn of the inner clause -/
theorem compTurn_in (elt t0 i0 t1 i1 : Expr) (scope : Scope) (pos : Pos) (it acc : Value) (env : Env) :
    compTurn (.ListComp elt [⟨t0, i0, [], 0⟩, ⟨t1, i1, [], 0⟩] scope pos) 1 it acc env = (standAt i1.pos >>= fun _ => pyNext it >>= fun r => match r with
      | none => pure (.done .next)
      | some v => letOwnedTupleGo t1 it v >>= fun _ => assign t1 env v >>= fun _ =>
        (eval elt env >>= fun x => call (.builtin "list.append") [acc, x] >>= fun _ => pure ()) >>= fun _ =>
          again (.compLoop (.ListComp elt [⟨t0, i0, [], 0⟩, ⟨t1, i1, [], 0⟩] scope pos) 1 it acc env)) := by rfl
end
end Mine

end
noncomputable section
open PySem PySem.Calls PySem.W PyProof.Rows
set_option maxRecDepth 100000
set_option maxHeartbeats 1000000
namespace Mine
section
variable {prog : Program} {w : World} {A : Around} {env : Env} {h h₀ g₀ : Heap} {vars : Vars} {s : Shared}
/-- a list of the base's, or a new one, as a source -/
theorem sr_new {e : Expr} {ds : List D} (hh : A.handled = none) (x : EvN prog w A env g₀ h e (.lst ds)) : Sr prog w A env h (some g₀) e ds isNameOrTuple true := ⟨fun s Q E q c => x.run s _ E q fun v s1 k1 r1 => by
  cases r1 using Rep.lstE with
  | lst p r =>
    obtain ⟨n, hp0⟩ := id p
    have hp := nw_in _ _ hp0
    have hne := Nat.ne_of_lt (Heap.lt_size hp)
    have p1 : s1.heap.PlainList _ _ := ⟨n, hp⟩
    refine wpAny_pyIter_list p1.isList (c _ _ (nw g₀ s.heap s1.heap) _ _ _ _ (keeps_trans k1 (keeps_push s1 _)) (iter_list hh hne r) ⟨⟨_, Heap.get?_push_size _ rfl, rfl, rfl⟩, p1.isList.push _⟩ (.of_stays fun _ _ e => Heap.get?_push_of_some _ (nw_in _ _ e)) ?_ ?_ ?_ ?_)
    · intro b hb
      simp only [List.mem_cons, List.not_mem_nil, or_false] at hb
      rcases hb with rfl | rfl
      · simp
      · simp; exact Nat.lt_succ_of_lt (Heap.lt_size hp)
    · intro b hb
      simp only [List.mem_cons, List.not_mem_nil, or_false] at hb
      rcases hb with rfl | rfl
      · exact ⟨_, Heap.get?_push_size _ rfl, .inl ⟨⟨_, rfl⟩, .head _⟩⟩
      · exact ⟨_, Heap.get?_push_of_some _ hp, .inr ⟨⟨_, _, rfl⟩, fun g e => by cases e; exact nw_up (fun _ _ e => Heap.get?_push_of_some _ e) _ _ hp0⟩⟩
    · intro b hb
      simp only [List.mem_cons, List.not_mem_nil, or_false] at hb
      subst hb; exact none_later k1
    · intro g e; cases e; exact .of_stays (nw_up fun _ _ e => Heap.get?_push_of_some _ e)⟩
theorem sr_newT {e : Expr} {ds : List D} (hh : A.handled = none) (x : EvN prog w A env g₀ h e (.tup ds)) : Sr prog w A env h (some g₀) e ds isNameOrTuple true := ⟨fun s Q E q c => x.run s _ E q fun v s1 k1 r1 => by
  cases r1 using Rep.tupE with
  | tup p r =>
    obtain ⟨o, n, hp0, hc, hd⟩ := id p
    have hp := nw_in _ _ hp0
    have hne := Nat.ne_of_lt (Heap.lt_size hp)
    have p1 : s1.heap.IsTuple _ _ := ⟨o, hp, hc, n, hd⟩
    refine wpAny_pyIter_tuple p1 (c _ _ (nw g₀ s.heap s1.heap) _ _ _ _ (keeps_trans k1 (keeps_push s1 _)) (iter_tuple hh hne r) ⟨⟨_, Heap.get?_push_size _ rfl, rfl, rfl⟩, p1.push _⟩ (.of_stays fun _ _ e => Heap.get?_push_of_some _ (nw_in _ _ e)) ?_ ?_ ?_ ?_)
    · intro b hb
      simp only [List.mem_cons, List.not_mem_nil, or_false] at hb
      rcases hb with rfl | rfl
      · simp
      · simp; exact Nat.lt_succ_of_lt (Heap.lt_size hp)
    · intro b hb
      simp only [List.mem_cons, List.not_mem_nil, or_false] at hb
      rcases hb with rfl | rfl
      · exact ⟨_, Heap.get?_push_size _ rfl, .inl ⟨⟨_, rfl⟩, .head _⟩⟩
      · exact ⟨_, Heap.get?_push_of_some _ hp, .inr ⟨⟨_, _, hd⟩, fun g e => by cases e; exact nw_up (fun _ _ e => Heap.get?_push_of_some _ e) _ _ hp0⟩⟩
    · intro b hb
      simp only [List.mem_cons, List.not_mem_nil, or_false] at hb
      subst hb; exact none_later k1
    · intro g e; cases e; exact .of_stays (nw_up fun _ _ e => Heap.get?_push_of_some _ e)⟩
theorem flat_at {α β : Type} (g : α → List β) {ds : List α} {i : Nat} {d : α} (hd : ds[i]? = some d) : ds.flatMap g = (ds.take i).flatMap g ++ (g d ++ (ds.drop (i + 1)).flatMap g) := by
  have hlt := (List.getElem?_eq_some_iff.mp hd).1
  have e : ds = ds.take i ++ d :: ds.drop (i + 1) := by
    have h1 := List.take_append_drop i ds
    rw [List.drop_eq_getElem_cons hlt, (List.getElem?_eq_some_iff.mp hd).2] at h1
    exact h1.symm
  conv => lhs; rw [e]
  rw [List.flatMap_append, List.flatMap_cons]
theorem flat_succ {α β : Type} (g : α → List β) {ds : List α} {i : Nat} {d : α} (hd : ds[i]? = some d) : (ds.take (i + 1)).flatMap g = (ds.take i).flatMap g ++ g d := by
  rw [List.take_add_one, hd, Option.toList_some, List.flatMap_append, List.flatMap_cons, List.flatMap_nil, List.append_nil]
theorem flag_lookup_none {fl : Bool} {y : Str} : ∀ {bs : List (Str × D)}, bs.lookup y = none → (flag fl bs).lookup y = none
  | [], _ => rfl
  | (x, d) :: r, e => by
    rw [List.lookup_cons] at e
    show List.lookup y ((x, _) :: flag fl r) = none
    rw [List.lookup_cons]
    cases hxy : y == x with
    | true => rw [hxy] at e; cases e
    | false => rw [hxy] at e; exact flag_lookup_none e
theorem lookup_app_none {y : Str} : ∀ {l m : Vars}, l.lookup y = none → (l ++ m).lookup y = m.lookup y
  | [], _, _ => rfl
  | (x, p) :: r, m, e => by
    rw [List.lookup_cons] at e
    rw [List.cons_append, List.lookup_cons]
    cases hxy : y == x with
    | true => rw [hxy] at e; cases e
    | false => rw [hxy] at e; exact lookup_app_none e

/-- a comprehension of two clauses, from its iterator on -/
theorem comp_core2 {elt t0 i0 t1 i1 : Expr} {scope : Scope} {pos : Pos} {s1 : Shared} {g : Heap} {I : Addr} {fp wr : List Addr} {St : Nat → Heap → Prop} {Mid : Nat → Value → Heap → Prop} {ds : List D} {okT okT1 : Expr → Prop} {sf fl sf1 fl1 : Bool}
    {E : Value → Shared → Prop} {RR : Value → Addr → Result → Shared → Prop} (bs bs1 : D → List (Str × D)) (es : D → List D) (f : D → D → D)
    (V : VS env h₀ h vars) (q : h.StaysIn s.heap) (k1 : Keeps s s1) (W : Iter prog w A g I fp wr ds St Mid okT sf) (st0 : St 0 s1.heap) (hg : SeqSub g s1.heap)
    (hfp : ∀ b ∈ fp, ∃ o, s1.heap.get? b = some o) (hwr : ∀ b ∈ wr, s.heap.get? b = none)
    (hh : A.handled = none) (hfl : fl = true → sf = true) (hok : okT t0) (hT : ∀ d ∈ ds, Tgt t0 d (bs d)) (hloc : ∀ d ∈ ds, ∀ p ∈ bs d, scope.names.lookup p.1 = some .local) (hz : (ds.flatMap fun d => (es d).map (f d)).length ≤ sizeLine)
    (hfl1 : fl1 = true → sf1 = true) (hok1 : okT1 t1) (hT1 : ∀ d ∈ ds, ∀ e ∈ es d, Tgt t1 e (bs1 e)) (hloc1 : ∀ d ∈ ds, ∀ e ∈ es d, ∀ p ∈ bs1 e, scope.names.lookup p.1 = some .local) (hap : ∀ d ∈ ds, ∀ e ∈ es d, ∀ p ∈ bs1 e, (bs d).lookup p.1 = none)
    (hcell : (scope.names.all fun x => decide (x.2 ≠ .cell)) = true) (hkind : scope.kind = .function) (hempty : scope.names.lookup ("" : Str) = none)
    (inner : ∀ C a0 b s' outs d, d ∈ ds → h.StaysIn b.heap → FS (cEnv scope C env) b s' (flag fl (bs d) ++ cVars env scope vars) (some (("" : Str), OD.acc a0 outs)) → Sr prog w A (cEnv scope C env) s'.heap (some b.heap) i1 (es d) okT1 sf1)
    (each : ∀ C a0 b s' outs d e, d ∈ ds → e ∈ es d → h.StaysIn b.heap → FS (cEnv scope C env) b s' (flag fl1 (bs1 e) ++ stab (flag fl (bs d) ++ cVars env scope vars)) (some (("" : Str), OD.acc a0 outs)) → EvN prog w A (cEnv scope C env) b.heap s'.heap elt (f d e))
    (hs1 : ∀ C v, foldedSetIterable i1 (cEnv scope C env) v = pure v)
    (hRR : ∀ a0 C b s4, s.heap.get? a0 = none → s.heap.get? C = none → a0 ≠ C → Keeps s s4 → s.heap.StaysIn b.heap → FS (cEnv scope C env) b s4 (cVars env scope vars) (some (("" : Str), OD.acc a0 (ds.flatMap fun d => (es d).map (f d)))) → RR (.ref a0) C (.ok .next) s4) :
    wpAny (model prog w) A (newList []) (fun acc s₃ => wpAny (model prog w) A (newFunctionEnv scope env.globals (closF env.cells scope.names []) [] env.qual none .none (some env)) (fun cenv s₄ =>
      codeAny (model prog w) A (.compStart (.ListComp elt [⟨t0, i0, [], 0⟩, ⟨t1, i1, [], 0⟩] scope pos) 0 (.ref I) acc { cenv with scope := relabel scope env }) (RR acc cenv.locals) s₄) E s₃) E s1 := by
  have nw0 : ∀ a, s1.heap.get? a = none → s.heap.get? a = none := fun a e => none_stays (keeps_stays k1) e
  have own_ok : ∀ (C : Addr) (a0 : Addr) (outs : List D) (nm : Str), scope.names.lookup nm = some .local → (storable (cEnv scope C env) nm && notOwn (some (("" : Str), OD.acc a0 outs)) nm) = true := fun C a0 outs nm hnm => by
    rw [storable_local hkind hnm, Bool.true_and]
    show (!(("" : Str) == nm)) = true
    have : (("" : Str) == nm) = false := by
      cases hq : (("" : Str) == nm) with
      | false => rfl
      | true => exact absurd hnm (by rw [← beq_iff_eq.mp hq, hempty]; simp)
    rw [this]; rfl
  refine comp_frame (P := fun acc cenv s₄ => codeAny (model prog w) A (.compStart (.ListComp elt [⟨t0, i0, [], 0⟩, ⟨t1, i1, [], 0⟩] scope pos) 0 (.ref I) acc cenv) (RR acc cenv.locals) s₄) (V.stays (stays_trans q (keeps_stays k1))) hg (W.wrF _ _ st0) hfp hcell hkind
    fun a0 C b0 h1 ha0 hC ⟨hb0, eb0⟩ hsub L hs1' F0 => ?_
  have hsb : s.heap.StaysIn b0.heap := fun a o e => hsub a o (fun hm => by rw [hwr a hm] at e; cases e) (keeps_stays k1 a o e)
  have loop : ∀ s₃ : Shared, s₃ = { s1 with heap := h1 } → codeAny (model prog w) A (.compLoop (.ListComp elt [⟨t0, i0, [], 0⟩, ⟨t1, i1, [], 0⟩] scope pos) 0 (.ref I) (.ref a0) (cEnv scope C env)) (RR (.ref a0) C) s₃ := by
    rintro s₃ rfl
    refine comp_loop (b0 := b0) (fl := fl) (bs := bs) (J := fun i vars' own' => vars' = cVars env scope vars ∧ own' = some (("" : Str), OD.acc a0 ((ds.take i).flatMap fun d => (es d).map (f d)))) (compTurn_out elt t0 i0 t1 i1 scope pos _ _ _) L W hh hfl hok hT ?_ ?_ ?_
      ⟨b0, _, _, .refl _, L.wb, ⟨rfl, rfl⟩, F0, W.frame _ _ _ st0 fun a _ o e => hs1' a o e, Nat.zero_le _⟩
    · rintro i vars' own' ⟨rfl, rfl⟩ d hd
      exact List.all_eq_true.mpr fun p hp => own_ok C a0 _ _ (hloc d hd p hp)
    · rintro i d b s' vars' own' hd ub ⟨rfl, rfl⟩ F
      have hmem : d ∈ ds := List.mem_of_getElem? hd
      have hbs : h.StaysIn b.heap := stays_trans q (stays_trans hsb ub.2)
      have hV1 : ∀ {e : D}, e ∈ es d → ∀ y p, (stab (flag fl (bs d) ++ cVars env scope vars)).lookup y = some p → p.1 = true ∧ (bs1 e).lookup y = none := fun {e} he y p hy => by
        obtain ⟨h1, h2⟩ := keepS_look hy
        refine ⟨h1, ?_⟩
        cases hq : (bs1 e).lookup y with
        | none => rfl
        | some z =>
          have hm := mem_of_lookup hq
          rw [lookup_app_none (flag_lookup_none (hap d hmem e he _ hm))] at h2
          have hf := (cVars_look h2).1
          have hl := hloc1 d hmem e he _ hm
          rw [hf] at hl; cases hl
      refine wpAny_bind (wpAny_mono ((inner C a0 b s' _ d hmem hbs F).run s' _ _ (stays_refl _) fun I1 s2 g1 fp1 wr1 St1 Mid1 k2 W1 st1 hg1 hsz1 hfp1 hwr1 hgst1 => ?_) (fun x s3 h3 => wpAny_bind (wpAny_standAt (wpAny_bind (wpAny_of_eq (hs1 C x) (wpAny_bind (wpAny_holding h3)))))) fun _ _ x => x)
      obtain ⟨b1, ub1, F1, L1⟩ := loop_base F k2 W1 st1 hg1 hfp1 hwr1 hgst1 (.inr rfl)
      have hb1 : h.StaysIn b1.heap := stays_trans hbs ub1.2
      refine wpAny_bind (wpAny_runOwn ?_)
      refine (fun loop1 => codeAny_compStart_list1 loop1 (W1.self 0 _ _ _ st1 loop1)) ?_
      exact
        comp_loop (b0 := b1) (fl := fl1) (bs := bs1) (J := fun j vars' own' => vars' = stab (flag fl (bs d) ++ cVars env scope vars) ∧ own' = some (("" : Str), OD.acc a0 (((ds.take i).flatMap fun d => (es d).map (f d)) ++ ((es d).take j).map (f d)))) (compTurn_in elt t0 i0 t1 i1 scope pos _ _ _) L1 W1 hh hfl1 hok1 (hT1 d hmem)
          (fun j vars' own' ⟨e1, e2⟩ e he => by subst e1; subst e2; exact List.all_eq_true.mpr fun p hp => own_ok C a0 _ _ (hloc1 d hmem e he p hp))
          (fun j e b2 s3 vars2 own2 he ub2 ⟨e1, e2⟩ F2 => by
            subst e1; subst e2
            have hem : e ∈ es d := List.mem_of_getElem? he
            refine wpAny_bind (wpAny_mono (emit_one (P := fun _ s' => Goes (cEnv scope C env) b2 _ s') F2 (each C a0 b2 s3 _ d e hmem hem (stays_trans hb1 ub2.2) F2) ?_ fun g' s4 ug F4 => ⟨g', _, _, ug, ⟨rfl, rfl⟩, ?_⟩) (fun v s5 h5 => wpAny_bind (wpAny_mono h5 (fun _ _ h6 => wpAny_pure h6) fun _ _ x => x)) fun _ _ x => x)
            · refine Nat.le_trans ?_ hz
              rw [flat_at (fun d => (es d).map (f d)) hd, List.length_append, List.length_append, List.length_append, List.length_map, List.length_map, List.length_take]
              have := Nat.min_le_right j (es d).length
              omega
            · rw [List.take_add_one, he, Option.toList_some, List.map_append, ← List.append_assoc]
              exact F4.weaken fun x p hx => flag_stab (fl := fl1) (bs := bs1 e) (fun y q' hq => hV1 hem y q' hq) hx)
          (fun b2 s3 vars2 own2 ub2 ⟨e1, e2⟩ F2 => by
            subst e1; subst e2
            rw [List.take_length] at F2
            refine wpAny_pure ⟨b2, _, _, ub1.trans ub2, ⟨rfl, rfl⟩, ?_⟩
            rw [flat_succ _ hd]
            exact F2.weaken fun x p hx => flag_stab (fl := fl) (bs := bs d) (fun y q' hq => ⟨cVars_true hq, lookup_none_of (hloc d hmem) (cVars_look hq).1⟩) hx)
          ⟨b1, _, _, .refl _, L1.wb, ⟨rfl, by rw [List.take_zero, List.map_nil, List.append_nil]⟩, F1.weaken fun x p hx => (keepS_look hx).2, st1, Nat.zero_le _⟩
    · rintro b s' vars' own' ub ⟨rfl, rfl⟩ F
      rw [List.take_length] at F
      have hkeep : s.heap.StaysIn b.heap := stays_trans hsb ub.2
      obtain ⟨h2, e2⟩ := ub.1
      obtain ⟨h3, t3, e3⟩ := F.same
      obtain ⟨h4, t4, e4, _⟩ := id k1
      have hks : Keeps s s' := ⟨h3, t3, by rw [e3, e2, eb0, e4], by have := stays_trans hkeep F.keep; rw [e3] at this; exact this⟩
      refine hRR a0 C b s' (nw0 _ ha0) (nw0 _ hC) ?_ hks hkeep F
      rintro rfl
      obtain ⟨a', hl', fr', ys', pl', ry'⟩ := F.own "" _ rfl
      obtain ⟨m, hm⟩ := F.locs
      exact plainList_ne_ns pl' hm hl'
  exact codeAny_compStart_list (loop _ rfl) (W.self 0 _ _ _ (W.frame _ _ _ st0 fun a _ o e => hs1' a o e) (loop _ rfl))
end
end Mine

end
noncomputable section
open PySem PySem.Calls PySem.W PyProof.Rows
set_option maxRecDepth 100000
set_option maxHeartbeats 1000000
namespace Mine
section
variable {prog : Program} {w : World} {A : Around} {env : Env} {h h₀ : Heap} {vars : Vars}
/-- what a comprehension of two clauses asks of its parts -/
structure Two (prog : Program) (w : World) (A : Around) (env : Env) (h : Heap) (vars : Vars) (scope : Scope) (elt t0 t1 i1 : Expr) (okT okT1 : Expr → Prop) (sf fl sf1 fl1 : Bool) (bs bs1 : D → List (Str × D)) (ds : List D) (es : D → List D) (f : D → D → D) : Prop where
  hfl : fl = true → sf = true
  hok : okT t0
  hT : ∀ d ∈ ds, Tgt t0 d (bs d)
  hloc : ∀ d ∈ ds, ∀ p ∈ bs d, scope.names.lookup p.1 = some .local
  hz : (ds.flatMap fun d => (es d).map (f d)).length ≤ sizeLine
  hfl1 : fl1 = true → sf1 = true
  hok1 : okT1 t1
  hT1 : ∀ d ∈ ds, ∀ e ∈ es d, Tgt t1 e (bs1 e)
  hloc1 : ∀ d ∈ ds, ∀ e ∈ es d, ∀ p ∈ bs1 e, scope.names.lookup p.1 = some .local
  hap : ∀ d ∈ ds, ∀ e ∈ es d, ∀ p ∈ bs1 e, (bs d).lookup p.1 = none
  hcell : (scope.names.all fun x => decide (x.2 ≠ .cell)) = true
  hkind : scope.kind = .function
  hempty : scope.names.lookup ("" : Str) = none
  inner : ∀ C a0 b s' outs d, d ∈ ds → h.StaysIn b.heap → FS (cEnv scope C env) b s' (flag fl (bs d) ++ cVars env scope vars) (some (("" : Str), OD.acc a0 outs)) → Sr prog w A (cEnv scope C env) s'.heap (some b.heap) i1 (es d) okT1 sf1
  each : ∀ C a0 b s' outs d e, d ∈ ds → e ∈ es d → h.StaysIn b.heap → FS (cEnv scope C env) b s' (flag fl1 (bs1 e) ++ stab (flag fl (bs d) ++ cVars env scope vars)) (some (("" : Str), OD.acc a0 outs)) → EvN prog w A (cEnv scope C env) b.heap s'.heap elt (f d e)
  hs1 : ∀ C v, foldedSetIterable i1 (cEnv scope C env) v = pure v
  hclos : closOk env.cells scope.names = true
  hnames : (scope.names.all fun y => !(y.2 == .local) || (scope.names.lookup y.1 == some .local)) = true
theorem evfl_comp2 {elt t0 i0 t1 i1 : Expr} {scope : Scope} {pos : Pos} {ds : List D} {okT okT1 : Expr → Prop} {sf fl sf1 fl1 : Bool} (bs bs1 : D → List (Str × D)) (es : D → List D) (f : D → D → D)
    (V : VS env h₀ h vars) (hh : A.handled = none) (src : SrC prog w A env h i0 ds okT sf) (T : Two prog w A env h vars scope elt t0 t1 i1 okT okT1 sf fl sf1 fl1 bs bs1 ds es f) (hs : ∀ x, foldedSetIterable i0 env x = pure x := by intro _; rfl) :
    EvFL prog w A env h (.ListComp elt [⟨t0, i0, [], 0⟩, ⟨t1, i1, [], 0⟩] scope pos) (ds.flatMap fun d => (es d).map (f d)) := ⟨fun s Q E q c => by
  have hn : ∀ y ∈ scope.names, y.2 = .local → scope.names.lookup y.1 = some .local := fun y hy e => by
    have := List.all_eq_true.mp T.hnames y hy
    rw [e] at this; simpa using this
  rw [eval_ListComp]
  refine wpAny_comprehension_free (use := none) rfl hs (closureFor_eq T.hclos) T.hkind hn (src.run s _ E q fun I s1 g fp wr St Mid k1 W st0 hg hfp hwr => ?_)
  refine comp_core2 (RR := fun acc C => compPost (model prog w) A E none Q acc C) bs bs1 es f V q k1 W st0 hg hfp hwr hh T.hfl T.hok T.hT T.hloc T.hz T.hfl1 T.hok1 T.hT1 T.hloc1 T.hap T.hcell T.hkind T.hempty T.inner T.each T.hs1 ?_
  intro a0 C b s4 ha hC hne hk hsb F
  obtain ⟨m, hm⟩ := F.locs
  refine ⟨m, hm, fun h' hs' => ?_⟩
  obtain ⟨ys, pl, ry⟩ := acc_out F rfl hs'
  obtain ⟨h4, t4, e4, st4⟩ := id hk
  refine c a0 ys _ ⟨h', t4, by rw [e4], fun a o e => (hs'.2 a (by rintro rfl; rw [hC] at e; cases e)).trans (keeps_stays hk a o e)⟩ ha pl ry⟩
theorem ex_comp2 {s₀ s : Shared} {own : Own} {elt t0 i0 t1 i1 : Expr} {scope : Scope} {pos spos py : Pos} {y : Str} {ds : List D} {okT okT1 : Expr → Prop} {sf fl sf1 fl1 : Bool} {Q : Flow → Shared → Prop} {E : Value → Shared → Prop} {rest : List Stmt} (bs bs1 : D → List (Str × D)) (es : D → List D) (f : D → D → D)
    (F : FS env s₀ s vars own) (hh : A.handled = none) (src : SrC prog w A env s.heap i0 ds okT sf) (T : Two prog w A env s.heap vars scope elt t0 t1 i1 okT okT1 sf fl sf1 fl1 bs bs1 ds es f)
    (c : ∀ b s', Up s₀ b → FS env b s' ((y, (own.isNone || (ds.flatMap fun d => (es d).map (f d)).all D.flat, .lst (ds.flatMap fun d => (es d).map (f d)))) :: vars) own → wpAny (model prog w) A (execs rest env) Q E s')
    (hst : storable env y = true := by rfl) (hno : notOwn own y = true := by rfl)
    (hsw : swapsWith (.ListComp elt [⟨t0, i0, [], 0⟩, ⟨t1, i1, [], 0⟩] scope pos) (some (.Name y py)) spos.line env = pure true := by rfl) (hs : ∀ x, foldedSetIterable i0 env x = pure x := by intro _; rfl) :
    wpAny (model prog w) A (execs (.Assign [.Name y py] (.ListComp elt [⟨t0, i0, [], 0⟩, ⟨t1, i1, [], 0⟩] scope pos) spos :: rest) env) Q E s := by
  have hn : ∀ y ∈ scope.names, y.2 = .local → scope.names.lookup y.1 = some .local := fun y hy e => by
    have := List.all_eq_true.mp T.hnames y hy
    rw [e] at this; simpa using this
  refine wpAny_execs_cons ?_
  rw [exec_Assign_Name_used _ _ _ _ hsw]
  refine wpAny_bind (wpAny_standAt (wpAny_bind ?_))
  show wpAny _ A (do let _ ← comprehension (.ListComp elt [⟨t0, i0, [], 0⟩, ⟨t1, i1, [], 0⟩] scope pos) scope env _ (newList []) false (eval i0 env) (some (assign (.Name y py) env))) _ _ s
  refine wpAny_bind (wpAny_mono (wpAny_comprehension_free (use := some (assign (.Name y py) env)) (Q := fun _ s' => wpAny (model prog w) A (execs rest env) Q E s') rfl hs (closureFor_eq T.hclos) T.hkind hn (src.run s _ E (stays_refl _) fun I s1 g fp wr St Mid k1 W st0 hg hfp hwr => ?_)) (fun _ s' hq => wpAny_pure (wpAny_pure hq)) fun _ _ e => e)
  refine comp_core2 (RR := fun acc C => compPost (model prog w) A E (some (assign (.Name y py) env)) (fun _ s' => wpAny (model prog w) A (execs rest env) Q E s') acc C) bs bs1 es f F.vs (stays_refl _) k1 W st0 hg hfp hwr hh T.hfl T.hok T.hT T.hloc T.hz T.hfl1 T.hok1 T.hT1 T.hloc1 T.hap T.hcell T.hkind T.hempty T.inner T.each T.hs1 ?_
  intro a0 C b s4 ha hC hne hk hsb FC
  exact comp_store F ha hC hne hk hsb FC c hst hno
end
end Mine

end
noncomputable section
open PySem PySem.Calls PySem.W PyProof.Rows
set_option maxRecDepth 100000
set_option maxHeartbeats 1000000
namespace Mine
open AutoSeq1 (wpAny_loadPart')
/-! enumerate over a tuple -/
theorem meets_enumT (l : Addr) (items : Array Value) (n : Nat) (dct : Option Addr) (sl : Array (Option Value)) :
    Meets (Builtin.«enumerate.__new__» ⟨[.type "enumerate", .ref l], []⟩) (fun _ R s => s.heap.get? l = some { cls := .type "tuple", dict := dct, data := .seq items n, slots := sl } ∧
      R (.ok (.ret (.ref (s.heap.push { cls := .type "tuple_iterator", data := .fields #[.ref l, .int 0 0] }).objs.size)))
        { s with heap := (s.heap.push { cls := .type "tuple_iterator", data := .fields #[.ref l, .int 0 0] }).push { cls := .type "enumerate", data := .fields #[.none, .bool false, .ref s.heap.objs.size, rawInt 0, .none, .none] } }) :=
  .of_wp fun prog w A R s h => by
    obtain ⟨hp, g, d, tk, os⟩ := s; obtain ⟨hl, h⟩ := h
    have hsub := sub_enumerate
    have hL : Heap.IsTuple (Shared.heap ⟨hp, g, d, tk, os⟩) l items := ⟨_, hl, rfl, n, rfl⟩
    wp_walk using wpAny_loadPart' hl
    refine wpAny_stack_any fun st => wpAny_pure ?_
    split
    · rename_i c _ _ _ _ _
      cases (c == Value.type "enumerate")
      · wp_walk using wpAny_loadPart' hl, wpAny_pyIter_tuple hL
        exact ⟨_, rfl, h⟩
      · wp_walk using wpAny_loadPart' hl, wpAny_pyIter_tuple hL
        exact ⟨_, rfl, h⟩
    · wp_walk using wpAny_loadPart' hl, wpAny_pyIter_tuple hL
      exact ⟨_, rfl, h⟩
section
variable {prog : Program} {w : World} {A : Around} {E : Value → Shared → Prop} {s : Shared} {env : Env} {h : Heap}
theorem call_enumerate_tuple {l : Addr} {items : Array Value} {Q : Value → Shared → Prop} (hL : s.heap.IsTuple l items)
    (h : ∀ h', IsEnum h' (s.heap.objs.size + 1) s.heap.objs.size 0 .none → h'.IsTupleIter s.heap.objs.size l 0 → h'.objs.size = s.heap.objs.size + 2 →
      (∀ b o, s.heap.get? b = some o → h'.get? b = some o) → Q (.ref (s.heap.objs.size + 1)) { s with heap := h' }) :
    wpAny (model prog w) A (call (.type "enumerate") [.ref l]) Q E s := by
  obtain ⟨⟨c, dct, dt, sl⟩, hl, hc, n, hd⟩ := hL
  replace hc : c = .type "tuple" := hc
  replace hd : dt = .seq items n := hd
  subst hc hd
  refine callType_new F.called_enumerate (by decide) (F.typeCall_enumerate_1 _) (F.newCall_enumerate_1 _) (fun obj => F.args_object_init_2 obj _) F.entry_enumerate_new
    (meets_enumT l items n dct sl) ⟨hl, ?_⟩
  have hz : (s.heap.push { cls := .type "tuple_iterator", data := .fields #[.ref l, .int 0 0] }).objs.size = s.heap.objs.size + 1 := Heap.size_push ..
  show _ ∧ _
  rw [hz]
  have he : IsEnum ((s.heap.push { cls := .type "tuple_iterator", data := .fields #[.ref l, .int 0 0] }).push
      { cls := .type "enumerate", data := .fields #[.none, .bool false, .ref s.heap.objs.size, rawInt 0, .none, .none] }) (s.heap.objs.size + 1) s.heap.objs.size 0 .none := by
    have := Heap.get?_push_size (s.heap.push { cls := .type "tuple_iterator", data := .fields #[.ref l, .int 0 0] })
      (o := { cls := .type "enumerate", data := .fields #[.none, .bool false, .ref s.heap.objs.size, rawInt 0, .none, .none] }) rfl
    rw [hz] at this; exact this
  refine ⟨⟨_, he, rfl⟩, h _ he ⟨_, Heap.get?_push_of_some _ (Heap.get?_push_size _ rfl), rfl, rfl⟩ (by rw [Heap.size_push, hz]) fun b o x => Heap.get?_push_of_some _ (Heap.get?_push_of_some _ x)⟩
theorem nextOf_tuple_item {it t : Addr} {i : Nat} {items} {x : Value} {Q : Value → Shared → Prop} (hit : s.heap.IsTupleIter it t i) (ht : s.heap.IsTuple t items) (hx : items[i]? = some x)
    (hQ : ∀ h', h'.IsTupleIter it t (i + 1) → Heap.SameBut it s.heap h' → Q x { s with heap := h' }) : wpAny (model prog w) A (Builtin.SmallTypes.nextOf (.ref it)) Q E s := by
  obtain ⟨o, ho, hc, hd⟩ := id hit
  obtain ⟨ol, hol, _, nl, hdl⟩ := ht
  unfold Builtin.SmallTypes.nextOf
  refine wpAny_bind (wpAny_callSpecial?_slot (name := Str.ofString "__next__") hit.typeIs F.slot_tuple_iterator_next
    (wpAny_call_entry F.slot_tuple_iterator_next hit.typeIs F.entry_tuple_iterator_next ?_ (F.args_tuple_iterator_next_1 _)))
  show wpAny _ _ (field (.ref it) 0 >>= _) _ _ s
  refine wpAny_bind (wpAny_field ho hd (x := .ref t) rfl ?_)
  show wpAny _ _ (if (Value.ref t == Value.none) = true then _ else _) _ _ s
  rw [if_neg (show ¬ ((Value.ref t == Value.none) = true) from Bool.false_ne_true)]
  show wpAny _ _ (field (.ref it) 1 >>= _) _ _ s
  refine wpAny_bind (wpAny_field ho hd (x := .int i 0) rfl ?_)
  show wpAny _ _ (seqItems? (.ref t) >>= _) _ _ s
  refine wpAny_bind (wpAny_seqItems hol hdl ?_)
  simp only [Int.toNat_natCast, hx]
  refine wpAny_bind (wpAny_setField ho hd (by simp) (wpAny_pure ⟨x, rfl, wpAny_pure (hQ _ ?_ (Heap.SameBut.update ..))⟩))
  exact ⟨_, Heap.get?_update_self _ ho (Obj.isFreed_of_fields (Obj.data_mapFields hd _)), (Obj.cls_mapFields ..).trans hc, by
    rw [Obj.data_mapFields hd]; simp [rawInt]⟩
theorem nextOf_tuple_end {it t : Addr} {i : Nat} {items} {Q : Value → Shared → Prop} (hh : A.handled = none) (hit : s.heap.IsTupleIter it t i) (ht : s.heap.IsTuple t items) (hx : items[i]? = none)
    (hE : ∀ h' e, Heap.ExtBut it s.heap h' → (∃ o, h'.get? e = some o ∧ o.cls = .type "StopIteration") → E (.ref e) { s with heap := h' }) : wpAny (model prog w) A (Builtin.SmallTypes.nextOf (.ref it)) Q E s := by
  obtain ⟨o, ho, hc, hd⟩ := id hit
  obtain ⟨ol, hol, _, nl, hdl⟩ := ht
  unfold Builtin.SmallTypes.nextOf
  refine wpAny_bind (wpAny_callSpecial?_slot (name := Str.ofString "__next__") hit.typeIs F.slot_tuple_iterator_next
    (wpAny_call_entry F.slot_tuple_iterator_next hit.typeIs F.entry_tuple_iterator_next ?_ (F.args_tuple_iterator_next_1 _)))
  show wpAny _ _ (field (.ref it) 0 >>= _) _ _ s
  refine wpAny_bind (wpAny_field ho hd (x := .ref t) rfl ?_)
  show wpAny _ _ (if (Value.ref t == Value.none) = true then _ else _) _ _ s
  rw [if_neg (show ¬ ((Value.ref t == Value.none) = true) from Bool.false_ne_true)]
  show wpAny _ _ (field (.ref it) 1 >>= _) _ _ s
  refine wpAny_bind (wpAny_field ho hd (x := .int i 0) rfl ?_)
  show wpAny _ _ (seqItems? (.ref t) >>= _) _ _ s
  refine wpAny_bind (wpAny_seqItems hol hdl ?_)
  simp only [Int.toNat_natCast, hx]
  refine wpAny_bind (wpAny_rule (wpAny_bind (wpAny_setField ho hd (by simp) ?_)))
  show wpAny _ _ (newExc (.type "StopIteration") [] >>= _) _ _ _
  refine wpAny_bind ?_
  simp only [newExc, newTuple]
  refine wpAny_bind (wpAny_newObj_type ?_ (by size_fits))
  refine wpAny_bind (m := firstArgMember _ _) (wpAny_of_eq (a := Value.none) (by first | rfl | (simp only [firstArgMember]; rfl)) ?_)
  refine wpAny_newObj_type ?_ (by size_fits)
  simp only [raiseNew]
  refine wpAny_bind (wpAny_handled ?_)
  first | rw [show A.in1.handled = none from hh] | rw [hh]
  refine wpAny_bind (wpAny_pure (wpAny_throw ?_))
  exact hE _ _ (((Heap.SameBut.update ..).extBut.push _).push _) ⟨_, Heap.get?_push_size _ rfl, rfl⟩
theorem draws_tuple (hh : A.handled = none) (it l : Addr) (hne : l ≠ it) (items : Array Value) :
    Draws prog w A it [it, l] items.size (fun i v => items[i]? = some v) (fun i h => h.IsTupleIter it l i ∧ h.IsTuple l items) where
  live := fun _ _ st => let ⟨o, ho, _⟩ := st.1; ⟨o, ho⟩
  frame := fun _ _ _ st hk => ⟨st.1.at fun o e => hk it (by simp) o e, let ⟨o, ho, r⟩ := st.2; ⟨o, hk l (by simp) o ho, r⟩⟩
  item := fun i s Q E hi st hQ => by
    refine nextOf_tuple_item st.1 st.2 (x := items[i]) (by simp [hi]) fun h' hit' hs' => ?_
    exact hQ _ h' s.toks (by simp [hi]) ⟨hit', let ⟨o, ho, r⟩ := st.2; ⟨o, hs'.extBut _ _ hne ho, r⟩⟩ hs'
  done := fun s Q E st hE => nextOf_tuple_end hh st.1 st.2 (by simp) hE
/-- enumerate(a tuple) -/
theorem sr_enumT {x : Str} {p pos : Pos} {e : Expr} {ds : List D} (hh : A.handled = none) (n : NameIs prog w A env h x (.type "enumerate")) (y : Ev prog w A env h e (.tup ds)) (hst : noStar [e] = true := by rfl) :
    Sr prog w A env h none (.Call (.Name x p) [e] [] pos) (enumD ds) isTupleT false := ⟨fun s Q E q c => by
  have he' : starEach (e :: []) env = (false, eval e env) :: starEach [] env := by
    cases e <;> first | rfl | cases hst
  refine wpAny_bind (n.run p s _ E q (callWith_any hst (.type _) (args_cons (y.run s _ E q fun v s1 k1 r1 => args_nil ⟨keeps_stays k1, ?_⟩) he')))
  cases r1 using Rep.tupE with
  | tup pl r =>
    rename_i a vs
    obtain ⟨o, m, hp, hc, hd⟩ := id pl
    refine call_enumerate_tuple pl.isTuple fun h' he hit hz hk => ?_
    have ha : a < s1.heap.objs.size := Heap.lt_size hp
    have hne := Nat.ne_of_lt ha
    have W := WalksT.enumerateD (prog := prog) (w := w) (A := A) (draws_tuple (A := A.in1) hh s1.heap.objs.size a hne vs) (s1.heap.objs.size + 1) (Nat.succ_ne_self _) (fun hm => by
      simp only [List.mem_cons, List.not_mem_nil, or_false] at hm
      rcases hm with e1 | e1
      · exact Nat.succ_ne_self _ e1
      · exact absurd ha (by rw [← e1]; exact Nat.not_lt.mpr (Nat.le_succ _))) (.head _)
    have st0 : (∃ old, IsEnum h' (s1.heap.objs.size + 1) s1.heap.objs.size (0 : Nat) old) ∧ h'.IsTupleIter s1.heap.objs.size a 0 ∧ h'.IsTuple a vs := ⟨⟨_, he⟩, hit, ⟨o, hk _ _ hp, hc, m, hd⟩⟩
    have WF : ∀ (i : Nat) (h : Heap), ((∃ old, IsEnum h (s1.heap.objs.size + 1) s1.heap.objs.size i old) ∧ h.IsTupleIter s1.heap.objs.size a i ∧ h.IsTuple a vs) → ∀ b ∈ [s1.heap.objs.size + 1, s1.heap.objs.size], ∃ o vs, h.get? b = some o ∧ o.data = .fields vs := fun i h st b hb => by
      obtain ⟨⟨old, he⟩, ⟨o, ho, _, hd⟩, _⟩ := st
      simp only [List.mem_cons, List.not_mem_nil, or_false] at hb
      rcases hb with rfl | rfl
      · exact ⟨_, _, he, rfl⟩
      · exact ⟨o, _, ho, hd⟩
    have I := iter_walkT (g := s1.heap) (ds := enumD ds) W (by rw [enumD_len, size_of_repL r]) (fun i vals d hp hd => by
      obtain ⟨t, x, hx, rfl⟩ := hp
      obtain ⟨d0, h0, rfl⟩ := enumD_get hd
      obtain ⟨x', hx', rx⟩ := r.get h0
      have : vs[i]? = some x' := by simpa using hx'
      rw [this] at hx; cases hx
      exact ⟨_, rfl, .cons (.int _ _) (.cons rx .nil)⟩) WF (fun i T h st b hb => by
      obtain ⟨⟨x, he⟩, ⟨⟨o, ho, _, hd⟩, _⟩, _⟩ := st
      simp only [List.mem_cons, List.not_mem_nil, or_false] at hb
      rcases hb with rfl | rfl
      · exact ⟨_, _, he, rfl⟩
      · exact ⟨o, _, ho, hd⟩)
    refine wpAny_pyIter_enum he (c _ _ s1.heap _ _ _ _ (keeps_trans k1 (keeps_heap hk)) I st0 (.of_stays hk) ?_ ?_ ?_ ?_)
    · intro b hb
      simp only [List.mem_cons, List.not_mem_nil, or_false] at hb
      show b < h'.objs.size
      rw [hz]
      rcases hb with rfl | rfl | rfl
      · exact Nat.lt_succ_self _
      · exact Nat.lt_succ_of_lt (Nat.lt_succ_self _)
      · exact Nat.lt_succ_of_lt (Nat.lt_succ_of_lt ha)
    · intro b hb
      simp only [List.mem_cons, List.not_mem_nil, or_false] at hb
      rcases hb with rfl | rfl | rfl
      · exact ⟨_, he, .inl ⟨⟨_, rfl⟩, .head _⟩⟩
      · obtain ⟨o, ho, _, hd⟩ := hit
        exact ⟨o, ho, .inl ⟨⟨_, hd⟩, .tail _ (.head _)⟩⟩
      · exact ⟨_, hk _ _ hp, .inr ⟨⟨_, _, hd⟩, fun g e => by cases e⟩⟩
    · have fresh : ∀ b, s1.heap.objs.size ≤ b → s.heap.get? b = none := fun b hb => none_stays (keeps_stays k1) (Heap.get?_none_of_le hb)
      intro b hb
      simp only [List.mem_cons, List.not_mem_nil, or_false] at hb
      rcases hb with rfl | rfl
      · exact fresh _ (Nat.le_succ _)
      · exact fresh _ (Nat.le_refl _)
    · intro g e; cases e⟩
end
end Mine

end
noncomputable section
open PySem PySem.Calls PySem.W PyProof.Rows
set_option maxRecDepth 100000
set_option maxHeartbeats 8000000
namespace Mine
/-! the module as its top leaves it: the objects that the walks ask for. A function's text is read off the row by unification. -/
noncomputable def hkEnt (P : Params) (x : String) (t : Tok) (v : Value) : DictEntry := ⟨PyData.keyHash P (Str.ofString x), .str (Str.ofString x) t, v⟩
noncomputable def hkCode (vs : Array Value) : Obj := ⟨.type "code", none, .fields vs, #[]⟩
noncomputable def hkFn {o : Option Stmt} {name : Str} {params : Arguments} {body : List Stmt} {dl : List PySem.Expr} {re : Option PySem.Expr} {tp : List TypeParam} {scope : Scope} {ts : Option Scope} {bi : Str} {p : Pos}
    (_ : o = some (.FunctionDef name params body dl re tp scope ts bi p)) (pm cd doc dV kV : Value) : Obj :=
  ⟨.type "function", none, .func { name, qualname := name, params, body := .stmts body, scope, globals := mainGlobals, closure := [], defaults := dV, kwdefaults := kV, doc, pyModule := pm, code := cd, builtins := builtinsNs }, #[]⟩
noncomputable def hkF28 : Obj := hkFn (o := PySem.Challenge.pw_pa0012_01.main.body[2]?) rfl (.str "cpy313.urllib.request" 194) (.ref 27) (.none) (.none) (.none)
noncomputable def hkF33 : Obj := hkFn (o := PySem.Challenge.pw_pa0012_01.main.body[3]?) rfl (.str "cpy313.urllib.request" 194) (.ref 32) (.none) (.none) (.none)
noncomputable def hkF41 : Obj := hkFn (o := PySem.Challenge.pw_pa0012_01.main.body[6]?) rfl (.str "cpy313.base64" 213) (.ref 40) (.none) (.none) (.none)
noncomputable def hkF61 : Obj := hkFn (o := PySem.Challenge.pw_pa0012_01.main.body[9]?) rfl (.str "binascii" 223) (.ref 60) (.none) (.none) (.none)
noncomputable def hkF68 : Obj := hkFn (o := PySem.Challenge.pw_pa0012_01.main.body[10]?) rfl (.str "binascii" 223) (.ref 67) (.none) (.none) (.none)
noncomputable def hkF75 : Obj := hkFn (o := PySem.Challenge.pw_pa0012_01.main.body[11]?) rfl (.str "binascii" 223) (.ref 74) (.none) (.none) (.none)
noncomputable def hkF82 : Obj := hkFn (o := PySem.Challenge.pw_pa0012_01.main.body[13]?) rfl (.str "binascii" 223) (.ref 81) (.none) (.none) (.none)
noncomputable def hkF90 : Obj := hkFn (o := PySem.Challenge.pw_pa0012_01.main.body[14]?) rfl (.str "binascii" 223) (.ref 89) (.none) (.none) (.ref 83)
noncomputable def hkF98 : Obj := hkFn (o := PySem.Challenge.pw_pa0012_01.main.body[15]?) rfl (.str "binascii" 223) (.ref 97) (.none) (.none) (.ref 91)
noncomputable def hkF106 : Obj := hkFn (o := PySem.Challenge.pw_pa0012_01.main.body[17]?) rfl (.str "cpy313.base64" 306) (.ref 105) (.none) (.ref 99) (.none)
noncomputable def hkF114 : Obj := hkFn (o := PySem.Challenge.pw_pa0012_01.main.body[18]?) rfl (.str "cpy313.base64" 306) (.ref 113) (.none) (.ref 107) (.none)
noncomputable def hkF121 : Obj := hkFn (o := PySem.Challenge.pw_pa0012_01.main.body[20]?) rfl (.str "law_pa0012_01" 326) (.ref 120) (.none) (.none) (.none)
noncomputable def hkF126 : Obj := hkFn (o := PySem.Challenge.pw_pa0012_01.main.body[21]?) rfl (.str "law_pa0012_01" 326) (.ref 125) (.none) (.none) (.none)
noncomputable def hkF131 : Obj := hkFn (o := PySem.Challenge.pw_pa0012_01.main.body[22]?) rfl (.str "law_pa0012_01" 326) (.ref 130) (.none) (.none) (.none)
noncomputable def hkF136 : Obj := hkFn (o := PySem.Challenge.pw_pa0012_01.main.body[23]?) rfl (.str "law_pa0012_01" 326) (.ref 135) (.none) (.none) (.none)
noncomputable def hkF143 : Obj := hkFn (o := PySem.Challenge.pw_pa0012_01.main.body[24]?) rfl (.str "law_pa0012_01" 326) (.ref 142) (.none) (.none) (.none)
noncomputable def hkF148 : Obj := hkFn (o := PySem.Challenge.pw_pa0012_01.main.body[25]?) rfl (.str "law_pa0012_01" 326) (.ref 147) (.none) (.none) (.none)
noncomputable def hkF153 : Obj := hkFn (o := PySem.Challenge.pw_pa0012_01.main.body[26]?) rfl (.str "law_pa0012_01" 326) (.ref 152) (.none) (.none) (.none)
noncomputable def hkF158 : Obj := hkFn (o := PySem.Challenge.pw_pa0012_01.main.body[27]?) rfl (.str "law_pa0012_01" 326) (.ref 157) (.none) (.none) (.none)
noncomputable def hkF165 : Obj := hkFn (o := PySem.Challenge.pw_pa0012_01.main.body[28]?) rfl (.str "law_pa0012_01" 326) (.ref 164) (.none) (.none) (.none)
noncomputable def hkF170 : Obj := hkFn (o := PySem.Challenge.pw_pa0012_01.main.body[29]?) rfl (.str "law_pa0012_01" 326) (.ref 169) (.none) (.none) (.none)
noncomputable def hkFrag (P : Params) : Frag := [
(3, ⟨.type "dict", none, .dict #[hkEnt P "__name__" 165 (.str "law_pa0012_01" 326),
    hkEnt P "__doc__" 166 (.none),
    hkEnt P "__package__" 167 (.none),
    hkEnt P "__loader__" 168 (.builtin "__main__.__loader__#opaque"),
    hkEnt P "__spec__" 169 (.none),
    hkEnt P "__annotations__" 170 (.ref 6),
    hkEnt P "__builtins__" 171 (.ref 4),
    hkEnt P "__file__" 173 (.str "/claim/cut.py" 172),
    hkEnt P "__cached__" 174 (.none),
    hkEnt P "_wall" 193 (.ref 21),
    hkEnt P "parse_keqv_list" 206 (.ref 28),
    hkEnt P "parse_http_list" 212 (.ref 33),
    hkEnt P "bytes_types" 215 (.ref 34),
    hkEnt P "_bytes_from_decode_data" 222 (.ref 41),
    hkEnt P "Error" 242 (.ref 51),
    hkEnt P "_ascii_buffer" 250 (.ref 61),
    hkEnt P "_buffer" 258 (.ref 68),
    hkEnt P "_truth" 266 (.ref 75),
    hkEnt P "_B64" 268 (.bytes #[65, 66, 67, 68, 69, 70, 71, 72, 73, 74, 75, 76, 77, 78, 79, 80, 81, 82, 83, 84, 85, 86, 87, 88, 89, 90, 97, 98, 99, 100, 101, 102, 103, 104, 105, 106, 107, 108, 109, 110, 111, 112, 113, 114, 115, 116, 117, 118, 119, 120, 121, 122, 48, 49, 50, 51, 52, 53, 54, 55, 56, 57, 43, 47] 267),
    hkEnt P "_b64_value" 275 (.ref 82),
    hkEnt P "a2b_base64" 291 (.ref 90),
    hkEnt P "b2a_base64" 305 (.ref 98),
    hkEnt P "b64encode" 316 (.ref 106),
    hkEnt P "b64decode" 325 (.ref 114),
    hkEnt P "_law_drawn" 335 (.ref 121),
    hkEnt P "_law_octets" 341 (.ref 126),
    hkEnt P "_law_shown" 347 (.ref 131),
    hkEnt P "_law_pieces" 353 (.ref 136),
    hkEnt P "_law_due" 364 (.ref 143),
    hkEnt P "_law_merged" 370 (.ref 148),
    hkEnt P "_law_text" 376 (.ref 153),
    hkEnt P "_law_known" 382 (.ref 158),
    hkEnt P "_law_told" 389 (.ref 165),
    hkEnt P "law" 395 (.ref 170)] 34, #[]⟩),
  (27, hkCode #[.str "parse_keqv_list" 196, .str "parse_keqv_list" 197, .str "/claim/cut.py" 198, .int 5 0, .int 1 0, .int 0 0, .int 0 0, .int 3 0, .ref 22, .bool true, .int 181 0, .ref 23, .none, .ref 24, .ref 25, .ref 26, .int 204 0, .int 5 0, .str "/claim/cut.py" 205]),
  (28, hkF28),
  (32, hkCode #[.str "parse_http_list" 207, .str "parse_http_list" 208, .str "/claim/cut.py" 209, .int 13 0, .int 1 0, .int 0 0, .int 0 0, .int 3 0, .ref 29, .bool true, .int 181 0, .ref 30, .none, .none, .none, .ref 31, .int 210 0, .int 13 0, .str "/claim/cut.py" 211]),
  (33, hkF33),
  (34, ⟨.type "tuple", none, .seq #[.type "bytes", .type "bytearray"], #[]⟩),
  (40, hkCode #[.str "_bytes_from_decode_data" 216, .str "_bytes_from_decode_data" 217, .str "/claim/cut.py" 218, .int 42 0, .int 1 0, .int 0 0, .int 0 0, .int 3 0, .ref 35, .bool true, .int 181 0, .ref 36, .none, .ref 37, .ref 38, .ref 39, .int 220 0, .int 42 0, .str "/claim/cut.py" 221]),
  (41, hkF41),
  (60, hkCode #[.str "_ascii_buffer" 243, .str "_ascii_buffer" 244, .str "/claim/cut.py" 245, .int 57 0, .int 1 0, .int 0 0, .int 0 0, .int 3 0, .ref 55, .bool true, .int 181 0, .ref 56, .none, .ref 57, .ref 58, .ref 59, .int 248 0, .int 57 0, .str "/claim/cut.py" 249]),
  (61, hkF61),
  (67, hkCode #[.str "_buffer" 251, .str "_buffer" 252, .str "/claim/cut.py" 253, .int 68 0, .int 1 0, .int 0 0, .int 0 0, .int 3 0, .ref 62, .bool true, .int 181 0, .ref 63, .none, .ref 64, .ref 65, .ref 66, .int 256 0, .int 68 0, .str "/claim/cut.py" 257]),
  (68, hkF68),
  (74, hkCode #[.str "_truth" 259, .str "_truth" 260, .str "/claim/cut.py" 261, .int 75 0, .int 1 0, .int 0 0, .int 0 0, .int 3 0, .ref 69, .bool true, .int 181 0, .ref 70, .none, .ref 71, .ref 72, .ref 73, .int 264 0, .int 75 0, .str "/claim/cut.py" 265]),
  (75, hkF75),
  (81, hkCode #[.str "_b64_value" 269, .str "_b64_value" 270, .str "/claim/cut.py" 271, .int 81 0, .int 1 0, .int 0 0, .int 0 0, .int 3 0, .ref 76, .bool true, .int 181 0, .ref 77, .none, .ref 78, .ref 79, .ref 80, .int 273 0, .int 81 0, .str "/claim/cut.py" 274]),
  (82, hkF82),
  (83, ⟨.type "dict", none, .dict #[hkEnt P "strict_mode" 276 (.bool false)] 1, #[]⟩),
  (89, hkCode #[.str "a2b_base64" 277, .str "a2b_base64" 278, .str "/claim/cut.py" 279, .int 93 0, .int 1 0, .int 1 0, .int 1 0, .int 3 0, .ref 84, .bool true, .int 181 0, .ref 85, .none, .ref 86, .ref 87, .ref 88, .int 289 0, .int 93 0, .str "/claim/cut.py" 290]),
  (90, hkF90),
  (91, ⟨.type "dict", none, .dict #[hkEnt P "newline" 292 (.bool true)] 1, #[]⟩),
  (97, hkCode #[.str "b2a_base64" 293, .str "b2a_base64" 294, .str "/claim/cut.py" 295, .int 147 0, .int 1 0, .int 1 0, .int 1 0, .int 3 0, .ref 92, .bool true, .int 181 0, .ref 93, .none, .ref 94, .ref 95, .ref 96, .int 303 0, .int 147 0, .str "/claim/cut.py" 304]),
  (98, hkF98),
  (99, ⟨.type "tuple", none, .seq #[.none], #[]⟩),
  (105, hkCode #[.str "b64encode" 308, .str "b64encode" 309, .str "/claim/cut.py" 310, .int 170 0, .int 2 0, .int 0 0, .int 0 0, .int 3 0, .ref 100, .bool true, .int 181 0, .ref 101, .none, .ref 102, .ref 103, .ref 104, .int 314 0, .int 170 0, .str "/claim/cut.py" 315]),
  (106, hkF106),
  (107, ⟨.type "tuple", none, .seq #[.none, .bool false], #[]⟩),
  (113, hkCode #[.str "b64decode" 317, .str "b64decode" 318, .str "/claim/cut.py" 319, .int 176 0, .int 3 0, .int 0 0, .int 0 0, .int 3 0, .ref 108, .bool true, .int 181 0, .ref 109, .none, .ref 110, .ref 111, .ref 112, .int 323 0, .int 176 0, .str "/claim/cut.py" 324]),
  (114, hkF114),
  (120, hkCode #[.str "_law_drawn" 328, .str "_law_drawn" 329, .str "/claim/cut.py" 330, .int 184 0, .int 1 0, .int 0 0, .int 0 0, .int 3 0, .ref 115, .bool true, .int 181 0, .ref 116, .none, .ref 117, .ref 118, .ref 119, .int 333 0, .int 184 0, .str "/claim/cut.py" 334]),
  (121, hkF121),
  (125, hkCode #[.str "_law_octets" 336, .str "_law_octets" 337, .str "/claim/cut.py" 338, .int 187 0, .int 1 0, .int 0 0, .int 0 0, .int 3 0, .ref 122, .bool true, .int 181 0, .ref 123, .none, .none, .none, .ref 124, .int 339 0, .int 187 0, .str "/claim/cut.py" 340]),
  (126, hkF126),
  (130, hkCode #[.str "_law_shown" 342, .str "_law_shown" 343, .str "/claim/cut.py" 344, .int 192 0, .int 2 0, .int 0 0, .int 0 0, .int 3 0, .ref 127, .bool true, .int 181 0, .ref 128, .none, .none, .none, .ref 129, .int 345 0, .int 192 0, .str "/claim/cut.py" 346]),
  (131, hkF131),
  (135, hkCode #[.str "_law_pieces" 348, .str "_law_pieces" 349, .str "/claim/cut.py" 350, .int 199 0, .int 2 0, .int 0 0, .int 0 0, .int 3 0, .ref 132, .bool true, .int 181 0, .ref 133, .none, .none, .none, .ref 134, .int 351 0, .int 199 0, .str "/claim/cut.py" 352]),
  (136, hkF136),
  (142, hkCode #[.str "_law_due" 354, .str "_law_due" 355, .str "/claim/cut.py" 356, .int 203 0, .int 3 0, .int 0 0, .int 0 0, .int 3 0, .ref 137, .bool true, .int 181 0, .ref 138, .none, .ref 139, .ref 140, .ref 141, .int 362 0, .int 203 0, .str "/claim/cut.py" 363]),
  (143, hkF143),
  (147, hkCode #[.str "_law_merged" 365, .str "_law_merged" 366, .str "/claim/cut.py" 367, .int 213 0, .int 1 0, .int 0 0, .int 0 0, .int 3 0, .ref 144, .bool true, .int 181 0, .ref 145, .none, .none, .none, .ref 146, .int 368 0, .int 213 0, .str "/claim/cut.py" 369]),
  (148, hkF148),
  (152, hkCode #[.str "_law_text" 371, .str "_law_text" 372, .str "/claim/cut.py" 373, .int 224 0, .int 2 0, .int 0 0, .int 0 0, .int 3 0, .ref 149, .bool true, .int 181 0, .ref 150, .none, .none, .none, .ref 151, .int 374 0, .int 224 0, .str "/claim/cut.py" 375]),
  (153, hkF153),
  (157, hkCode #[.str "_law_known" 377, .str "_law_known" 378, .str "/claim/cut.py" 379, .int 226 0, .int 2 0, .int 0 0, .int 0 0, .int 3 0, .ref 154, .bool true, .int 181 0, .ref 155, .none, .none, .none, .ref 156, .int 380 0, .int 226 0, .str "/claim/cut.py" 381]),
  (158, hkF158),
  (164, hkCode #[.str "_law_told" 383, .str "_law_told" 384, .str "/claim/cut.py" 385, .int 229 0, .int 1 0, .int 0 0, .int 0 0, .int 3 0, .ref 159, .bool true, .int 181 0, .ref 160, .none, .ref 161, .ref 162, .ref 163, .int 387 0, .int 229 0, .str "/claim/cut.py" 388]),
  (165, hkF165),
  (169, hkCode #[.str "law" 390, .str "law" 391, .str "/claim/cut.py" 392, .int 236 0, .int 1 0, .int 0 0, .int 0 0, .int 3 0, .ref 166, .bool true, .int 181 0, .ref 167, .none, .none, .none, .ref 168, .int 393 0, .int 236 0, .str "/claim/cut.py" 394]),
  (170, hkF170)]
noncomputable def hkAddrs : List Addr := [3, 27, 28, 32, 33, 34, 40, 41, 60, 61, 67, 68, 74, 75, 81, 82, 83, 89, 90, 91, 97, 98, 99, 105, 106, 107, 113, 114, 120, 121, 125, 126, 130, 131, 135, 136, 142, 143, 147, 148, 152, 153, 157, 158, 164, 165, 169, 170]
noncomputable def hkView : Program := view PySem.Challenge.pw_pa0012_01 [29]
noncomputable def hkLoose : List Str := [Str.ofString "_wall", Str.ofString "parse_keqv_list", Str.ofString "parse_http_list", Str.ofString "bytes_types", Str.ofString "_bytes_from_decode_data", Str.ofString "Error", Str.ofString "_ascii_buffer", Str.ofString "_buffer", Str.ofString "_truth", Str.ofString "_B64", Str.ofString "_b64_value", Str.ofString "a2b_base64", Str.ofString "b2a_base64", Str.ofString "b64encode", Str.ofString "b64decode", Str.ofString "_law_drawn", Str.ofString "_law_octets", Str.ofString "_law_shown", Str.ofString "_law_pieces", Str.ofString "_law_due", Str.ofString "_law_merged", Str.ofString "_law_text", Str.ofString "_law_known", Str.ofString "_law_told"]

noncomputable abbrev hkRow : OpenRow := PySem.Challenge.rw_pa0012_01.row
theorem hkSaid : PySem.Challenge.rw_pa0012_01.wellSaid = true := by
  unfold OpenLaw.wellSaid OpenRow.wellSaid OpenRow.partSaid looksOpen
  repeat' with_reducible refine look_both ?_ ?_
  all_goals decide +kernel
theorem hkLeft : LeftO hkRow.prog hkView hkLoose (fun _ => true) (fun s => hkAddrs.map s.heap.get?) (fun w => (hkFrag w.params).map fun p => some p.2) 2200 := by
  intro w
  kernel_rfl
theorem hkAddrs_eq (P : Params) : hkAddrs = (hkFrag P).map (·.1) := by kernel_rfl
theorem hd {d : DefRec} {kwd : List (Str × PySem.Expr)} (hdef : defOf hkView hkRow.name = some (d, kwd)) (hp : hkRow.prog.theDef hkRow.name = some (d.params, d.body, d.scope)) (hk : kwWritten? d.params.kwonlyargs d.params.kw_defaults = some kwd)
    (call : WalkO hkView hkLoose (fun _ _ => True) (InK hkFrag) hkRow.toRowW d kwd fun f vs => PySem.call f vs) : PySem.Challenge.rw_pa0012_01.Holds :=
  holds_law hkSaid fun s => holds_open hkLeft (InK.of hkAddrs_eq) InK.keeps (fun _ _ => trivial) (fun _ _ _ _ _ => trivial) hdef hp hk (fun _ _ => recFacts_nil rfl) rfl s (by decide +kernel) ⟨rfl, rfl, rfl, rfl, rfl, by decide +kernel⟩ (by w_witness2) call
end Mine

end
section
open PySem PySem.Calls PySem.W PyProof.Rows
set_option maxRecDepth 100000
set_option maxHeartbeats 8000000
namespace Mine
local macro_rules | `(tactic| kwd_less) => `(tactic| first | assumption | decide | omega | (simp only [List.length_cons, List.length_nil, sizeLine_eq]; omega))
local macro_rules | `(tactic| kwd_inv) => `(tactic| first
  | exact op_add_int | exact op_sub_int | exact op_and_int | exact op_or_int
  | exact op_mod_int (by kwd_less) | exact op_floordiv_int (by kwd_less) (by kwd_less)
  | exact op_mul_int (by kwd_less) | exact op_rshift_int (by kwd_less) | exact op_lshift_int (by kwd_less) (by kwd_less) | exact op_pow_int (by kwd_less) (by kwd_less) (by kwd_less)
  | exact cmp_eq_int | exact cmp_ne_int | exact cmp_lt_int | exact cmp_le_int | exact cmp_gt_int | exact cmp_ge_int | exact cmp_eq_str
  | exact op_add_str (by kwd_less) | exact op_add_bytes (by kwd_less) | exact op_add_list (by kwd_less))
local macro_rules | `(tactic| kwd_rel) => `(tactic| first | exact evl_nil | (refine' evl_cons ?a ?b; (case a => ktr_rel); (case b => kwd_rel)))
local macro_rules | `(tactic| ktr_rel) => `(tactic| first
  | exact ev_int | exact ev_str | exact ev_bool | exact ev_none | exact ev_bytes
  | exact ev_loc (by assumption) (by rfl)
  | exact ev_own (by assumption)
  | (refine' ev_binop ?a ?b ?c; (case a => ktr_rel); (case b => ktr_rel); (case c => kwd_inv))
  | (refine' ev_cmp ?a ?b ?c; (case a => ktr_rel); (case b => ktr_rel); (case c => kwd_inv))
  | (refine' ev_neg ?a; (case a => ktr_rel))
  | (refine' ev_tuple ?a; (case a => kwd_rel))
  | (refine' ev_list ?a; (case a => kwd_rel)))
local macro_rules | `(tactic| ktr_unf) => `(tactic| first
  | (refine' tr_cmp ?a ?b ?c; (case a => ktr_rel); (case b => ktr_rel); (case c => kwd_inv))
  | (refine' tr_chain ?a ?b ?c ?d ?e; (case a => ktr_rel); (case b => ktr_rel); (case c => ktr_rel); (case d => kwd_inv); (case e => kwd_inv))
  | (refine' tr_not ?a; (case a => ktr_unf))
  | (refine' tr_val ?a ?b; (case a => ktr_rel); (case b => first | exact truth_bool | exact truth_int | exact truth_none | exact truth_str (by kwd_less) | exact truth_list (by kwd_less))))

noncomputable section
noncomputable abbrev KK3 (w : World) : Frag := hkFrag w.params
section
variable {prog : Program} {w : World} {mg mb : Str → Option Value}
noncomputable def rowVal (row : List Int) : Int := row.foldl (fun v o => v * 256 + o) 0
end

section
variable {prog : Program} {w : World} {mg mb : Str → Option Value}
end

theorem kit_tup (w : World) : kitOne (KK3 w) (.type "tuple") (.type "str") = some false := by kernel_rfl
theorem kit_str (w : World) : kitOne (KK3 w) (.type "str") (.type "str") = some true := by kernel_rfl
noncomputable abbrev PP := List Int × List Int
noncomputable def PD (p : PP) : D := .tup [.lst (p.1.map .int), .lst (p.2.map .int)]
noncomputable def SD : Str ⊕ PP → D
  | .inl s => .str s
  | .inr p => PD p
noncomputable def put (known : List PP) (p : PP) : List PP := match known.findIdx? (·.1 == p.1) with
  | some i => known.set i p
  | none => known ++ [p]
noncomputable def merged : List (Str ⊕ PP) → List PP → Str ⊕ List PP
  | [], known => .inr known
  | .inl s :: _, _ => .inl s
  | .inr p :: r, known => merged r (put known p)
noncomputable def MD : Str ⊕ List PP → D
  | .inl s => .str s
  | .inr ps => .lst (ps.map PD)
theorem put_len (known : List PP) (p : PP) : (put known p).length ≤ known.length + 1 := by
  unfold put; split <;> simp
theorem foldl_put_len (ps known : List PP) : (ps.foldl put known).length ≤ known.length + ps.length := by
  induction ps generalizing known with
  | nil => simp
  | cons p r ih => rw [List.foldl_cons]; have := ih (put known p); have := put_len known p; simp; omega
theorem merged_pre (ps : List PP) (r : List (Str ⊕ PP)) (known : List PP) : merged (ps.map .inr ++ r) known = merged r (ps.foldl put known) := by
  induction ps generalizing known with
  | nil => rfl
  | cons p t ih => rw [List.map_cons, List.cons_append, merged, ih]; rfl
noncomputable def unInts : List D → List Int := List.filterMap fun d => match d with | .int i => some i | _ => none
theorem unInts_map (xs : List Int) : unInts (xs.map .int) = xs := by
  unfold unInts; rw [List.filterMap_map]
  induction xs with
  | nil => rfl
  | cons x r ih => simpa using ih
noncomputable def placeF (key : List Int) (d : D) : Option D := match d with
  | .tup [.int i, .tup [.lst a, _]] => if (unInts a == key) = true then some (.int i) else none
  | _ => none
noncomputable def placesFrom (key : List Int) (n : Nat) : List PP → List Nat
  | [] => []
  | p :: r => if (p.1 == key) = true then n :: placesFrom key (n + 1) r else placesFrom key (n + 1) r
theorem places_eq (key : List Int) (known : List PP) (n : Nat) : (((known.map PD).zipIdx n).map fun p => D.tup [.int p.2, p.1]).filterMap (placeF key) = (placesFrom key n known).map fun i => D.int (i : Nat) := by
  induction known generalizing n with
  | nil => rfl
  | cons p r ih =>
    rw [List.map_cons, List.zipIdx_cons, List.map_cons, List.filterMap_cons]
    have : placeF key (.tup [.int (n : Nat), PD p]) = if (p.1 == key) = true then some (.int (n : Nat)) else none := by
      show (if (unInts (p.1.map .int) == key) = true then _ else _) = _
      rw [unInts_map]
    rw [this, placesFrom]
    by_cases h : (p.1 == key) = true
    · rw [if_pos h, if_pos h]; simp only [List.map_cons]; rw [ih]
    · rw [if_neg h, if_neg h]; exact ih _
theorem places_find (key : List Int) (known : List PP) (n : Nat) : (placesFrom key n known).head? = (known.findIdx? (·.1 == key)).map (· + n) := by
  induction known generalizing n with
  | nil => rfl
  | cons p r ih =>
    rw [placesFrom, List.findIdx?_cons]
    by_cases h : (p.1 == key) = true
    · rw [if_pos h, if_pos h]; simp
    · rw [if_neg h, if_neg h, ih, Option.map_map]; congr 1; funext x; simp; omega
section
variable {prog : Program} {w : World} {mg mb : Str → Option Value}
theorem fn_merged {dues : List (Str ⊕ PP)} (hl : dues.length ≤ 100) : Fn prog w (KK3 w) mg mb 3 148 [.lst (dues.map SD)] [] (MD (merged dues [])) := by
  refine ⟨fun A s vs kvs R hf G r hk rk k => ?_⟩
  obtain ⟨v, rfl, rv⟩ := r.inv1
  cases kvs with
  | cons _ _ => cases hk
  | nil =>
  refine enter_cells (vars := [("dues", (true, .lst (dues.map SD)))]) hf G (by rfl) (by rfl) (by rfl) (fun L => by rfl) (by exact .cons rv .nil) ?_
  intro L s₁ F
  refine ex_own F (by rfl) fun s₁ F => ?_
  let V : Vars := [("dues", (true, .lst (dues.map SD)))]
  refine ex_for (fl := true) (fun i vars own => vars = V ∧ ∃ ps : List PP, dues.take i = ps.map .inr ∧ own = some (("known" : Str), .lst ((ps.foldl put []).map PD))) (fun d => [("due", d)]) F hf.hh
    (sr_stable (ds := dues.map SD) hf.hh F (by rfl)) (.inr rfl) (fun _ => rfl) trivial (fun d _ => .name _ _ _) ?_ ⟨rfl, [], rfl, rfl⟩ ?_ ?_
  · rintro i vars' own' ⟨rfl, ps, _, rfl⟩ d _
    rfl
  · rintro i d g s₂ vars' own' hd ug ⟨rfl, ps, hps, rfl⟩ F
    have hG := fun {b s' : Shared} (u : Up g b) (k : b.heap.StaysIn s'.heap) => G.stays (stays_trans ug.2 (stays_trans u.2 k))
    rw [List.getElem?_map] at hd
    cases hx : dues[i]? with
    | none => rw [hx] at hd; cases hd
    | some x =>
    rw [hx] at hd; cases hd
    have hi : i < dues.length := (List.getElem?_eq_some_iff.mp hx).1
    have hpl : ps.length = i := by
      have := congrArg List.length hps
      rw [List.length_take, List.length_map] at this; omega
    have hdues : dues = ps.map .inr ++ x :: dues.drop (i + 1) := by
      conv => lhs; rw [← List.take_append_drop i dues, hps]
      congr 1
      rw [List.drop_eq_getElem_cons hi]
      congr 1
      rw [List.getElem?_eq_getElem hi] at hx; exact Option.some.inj hx
    have hkl := foldl_put_len ps []
    cases x with
    | inl str =>
      refine ex_if F (tr_val (ev_call (nm_boot (hG (.refl _) F.keep) (by rfl) Boot.isinstance) (.builtin _) (evl_cons (by ktr_rel) (evl_cons (ev_type (nm_boot (hG (.refl _) F.keep) (by rfl) Boot.str)) evl_nil)) (call_isinstance1 (d := SD (.inl str)) (b := true) (hG (.refl _) F.keep) (kit_str w))) truth_bool) (fun s₃ F e => ?_) (fun s₃ F e => by cases e)
      refine ex_return (d := .str str) F (by ktr_rel) fun v s' F r => ?_
      refine k _ _ (F.keepsUp ug) ?_
      rw [hdues, merged_pre]; exact r
    | inr p =>
      have hdT : SD (.inr p) = .tup [.lst (p.1.map .int), .lst (p.2.map .int)] := rfl
      refine ex_if F (tr_val (ev_call (nm_boot (hG (.refl _) F.keep) (by rfl) Boot.isinstance) (.builtin _) (evl_cons (by ktr_rel) (evl_cons (ev_type (nm_boot (hG (.refl _) F.keep) (by rfl) Boot.str)) evl_nil)) (call_isinstance1 (d := SD (.inr p)) (b := false) (hG (.refl _) F.keep) (kit_tup w))) truth_bool) (fun s₃ F e => by cases e) (fun s₃ F e => ex_nil ?_)
      let known := ps.foldl put []
      have hknl : known.length ≤ 100 := by have : known.length ≤ ([] : List PP).length + ps.length := hkl; simp at this; omega
      have hzk : (known.map PD).length ≤ sizeLine := by rw [List.length_map, sizeLine_eq]; omega
      refine ex_comp (fl := false) (ds := enumD (known.map PD)) (fun d => match d with | .tup [a, b] => [("other", b), ("place", a)] | _ => []) (placeF p.1) F hf.hh
        (Sr.c (st := none) (by exact sr_enum hf.hh (nm_boot (hG (.refl _) F.keep) (by rfl) Boot.enumerate) (ev_own F))) (fun q => by cases q) trivial (fun d hd => ?_) (fun d hd => ?_) (by rw [enumD_len]; exact hzk) ?_ ?_
      · obtain ⟨j, d0, _, rfl⟩ := enumD_mem hd
        exact .pair _ _ _ _ _ _ _ _
      · obtain ⟨j, d0, _, rfl⟩ := enumD_mem hd
        exact loc2 rfl rfl
      · intro C a0 b s' outs d hd hb F'
        obtain ⟨j, d0, hj, rfl⟩ := enumD_mem hd
        rw [List.getElem?_map] at hj
        cases hq : known[j]? with
        | none => rw [hq] at hj; cases hj
        | some q =>
        rw [hq] at hj; cases hj
        have hfd : placeF p.1 (.tup [.int (j : Nat), PD q]) = if (q.1 == p.1) = true then some (.int (j : Nat)) else none := by
          show (if (unInts (q.1.map .int) == p.1) = true then _ else _) = _
          rw [unInts_map]
        rw [hfd]
        refine ⟨ts_one (Tr.as (tr_cmp (ev_item (d1 := PD q) (by ktr_rel) ev_int (op_item_tup (d := .lst (q.1.map .int)) (by decide) (by decide) rfl)) (ev_item (d1 := PD p) (by ktr_rel) ev_int (op_item_tup (d := .lst (p.1.map .int)) (by decide) (by decide) rfl)) (cmp_eq_ints hf.deeper.cLine)) (by by_cases h : (q.1 == p.1) = true <;> simp [h])), fun d' e => ?_⟩
        by_cases h : (q.1 == p.1) = true
        · rw [if_pos h] at e; cases e
          exact evn_flat (by ktr_rel)
        · rw [if_neg h] at e; cases e
      · intro b s₄ ub F
        have hpe : (enumD (known.map PD)).filterMap (placeF p.1) = (placesFrom p.1 0 known).map fun i => D.int (i : Nat) := places_eq p.1 known 0
        have hfl : ((placesFrom p.1 0 known).map fun i => D.int (i : Nat)).all D.flat = true := by
          rw [List.all_eq_true]; intro d hd; obtain ⟨i, _, rfl⟩ := List.mem_map.mp hd; rfl
        rw [hpe, hfl] at F
        have hpf := places_find p.1 known 0
        have htk : dues.take (i + 1) = (ps ++ [p]).map .inr := by
          rw [List.take_add_one, hps, hx]; simp
        have hfold : (ps ++ [p]).foldl put [] = put known p := by rw [List.foldl_append]; rfl
        have hzp : ((placesFrom p.1 0 known).map fun i => D.int (i : Nat)).length ≤ sizeLine := by
          rw [← hpe]
          exact Nat.le_trans (List.length_filterMap_le _ _) (by rw [enumD_len]; exact hzk)
        cases hpl' : placesFrom p.1 0 known with
        | nil =>
          rw [hpl'] at F hpf hzp
          have hput : put known p = known ++ [p] := by
            unfold put
            cases hfi : known.findIdx? (·.1 == p.1) with
            | none => rfl
            | some j => rw [hfi] at hpf; cases hpf
          refine ex_if F (by ktr_unf) (fun s₅ F e => by cases e) (fun s₅ F e => ?_)
          refine ex_append (d := PD p) F (evb_var F (by rfl)) hzk fun s₆ F => ex_nil (ex_nil ?_)
          refine ⟨b, _, _, ub, ⟨rfl, ps ++ [p], htk, rfl⟩, ?_⟩
          rw [hfold, hput, List.map_append]
          exact F.sub (.cons rfl .nil)
        | cons j js =>
          rw [hpl'] at F hpf hzp
          have hfi : known.findIdx? (·.1 == p.1) = some j := by
            cases hfi : known.findIdx? (·.1 == p.1) with
            | none => rw [hfi] at hpf; cases hpf
            | some j' => rw [hfi] at hpf; simp at hpf; rw [hpf]
          have hput : put known p = known.set j p := by unfold put; rw [hfi]
          have hjl : j < known.length := by
            have := List.findIdx?_eq_some_iff_findIdx_eq.mp hfi
            exact this.1
          have hjz : ((j : Nat) : Int) < ((known.map PD).length : Int) := by rw [List.length_map]; omega
          refine ex_if F (by ktr_unf) (fun s₅ F e => ?_) (fun s₅ F e => by cases e)
          refine ex_setitem (d := PD p) (k := (j : Nat)) F (evb_var F (by rfl)) (ev_item (by ktr_rel) ev_int (op_item_list (by decide) (by decide) rfl)) (by omega) hjz hzk fun s₆ F => ex_nil (ex_nil ?_)
          refine ⟨b, _, _, ub, ⟨rfl, ps ++ [p], htk, rfl⟩, ?_⟩
          rw [hfold, hput, List.map_set]
          exact F.sub (.cons rfl .nil)
  · rintro g s₂ vars' own' ug ⟨rfl, ps, hps, rfl⟩ F
    rw [List.length_map, List.take_length] at hps
    refine ex_return F (ev_own F) fun v s' F r => k _ _ (F.keepsUp ug) ?_
    rw [hps, show ps.map Sum.inr = ps.map Sum.inr ++ ([] : List (Str ⊕ PP)) by simp, merged_pre]; exact r
end

theorem str_len_append (a b : Str) : (a ++ b).length = a.length + b.length := by
  show (a.cps ++ b.cps).size = _
  rw [Array.size_append]; rfl
section
variable {prog : Program} {w : World} {mg mb : Str → Option Value}
end

theorem FS.ownAs {env : Env} {b s : Shared} {vars : Vars} {x : Str} {ds ds' : List D} (F : FS env b s vars (some (x, .lst ds))) (e : ds = ds') : FS env b s vars (some (x, .lst ds')) := e ▸ F
structure PS where
  res : List Str
  part : Str
  esc : Bool
  quo : Bool
noncomputable def chS (c : Nat) : Str := ⟨#[c]⟩
noncomputable def pStep (st : PS) (c : Nat) : PS :=
  if st.esc = true then { st with part := st.part ++ chS c, esc := false }
  else if st.quo = true then
    (if (chS c == "\\") = true then { st with esc := true }
     else if (chS c == "\"") = true then { st with part := st.part ++ chS c, quo := false }
     else { st with part := st.part ++ chS c })
  else if (chS c == ",") = true then { st with res := st.res ++ [st.part], part := "" }
  else if (chS c == "\"") = true then { st with part := st.part ++ chS c, quo := true }
  else { st with part := st.part ++ chS c }
noncomputable def pRun (cs : List Nat) : PS := cs.foldl pStep ⟨[], "", false, false⟩
noncomputable def pEnd (st : PS) : List Str := if ((st.part.length : Int) != 0) = true then st.res ++ [st.part] else st.res
noncomputable def phl (x : Str) : List Str := (pEnd (pRun x.cps.toList)).map Txt.strip
structure POk (n : Nat) (st : PS) : Prop where
  part : st.part.length ≤ n
  len : st.res.length ≤ n
  all : ∀ y ∈ st.res, y.length ≤ n
theorem chS_len (c : Nat) : (chS c).length = 1 := rfl
theorem pStep_ok {n : Nat} {st : PS} {c : Nat} (h : POk n st) : POk (n + 1) (pStep st c) := by
  have h1 := h.part; have h2 := h.len; have h3 := h.all
  have hp : (st.part ++ chS c).length ≤ n + 1 := by rw [str_len_append, chS_len]; omega
  have base : POk (n + 1) st := ⟨by omega, by omega, fun y hy => by have := h3 y hy; omega⟩
  unfold pStep
  split
  · exact ⟨hp, base.len, base.all⟩
  split
  · split
    · exact ⟨base.part, base.len, base.all⟩
    split
    · exact ⟨hp, base.len, base.all⟩
    · exact ⟨hp, base.len, base.all⟩
  split
  · refine ⟨Nat.zero_le _, by simp; omega, fun y hy => ?_⟩
    rcases List.mem_append.mp hy with h | h
    · exact base.all y h
    · rw [List.mem_singleton.mp h]; omega
  split
  · exact ⟨hp, base.len, base.all⟩
  · exact ⟨hp, base.len, base.all⟩
theorem pRun_ok (cs : List Nat) : ∀ {n : Nat} {st : PS}, POk n st → POk (n + cs.length) (cs.foldl pStep st) := by
  induction cs with
  | nil => intro n st h; exact h
  | cons c r ih => intro n st h; rw [List.foldl_cons, List.length_cons, show n + (r.length + 1) = n + 1 + r.length by omega]; exact ih (pStep_ok h)
theorem POk.mono {n m : Nat} {st : PS} (h : POk n st) (k : n ≤ m) : POk m st := ⟨Nat.le_trans h.part k, Nat.le_trans h.len k, fun y hy => Nat.le_trans (h.all y hy) k⟩
theorem pStart : POk 0 ⟨[], "", false, false⟩ := ⟨Nat.le_refl _, Nat.le_refl _, fun y hy => by cases hy⟩
section
variable {prog : Program} {w : World} {mg mb : Str → Option Value}
theorem fn_phl {x : Str} (hl : x.length ≤ 100000) : Fn prog w (KK3 w) mg mb 3 33 [.str x] [] (.lst ((phl x).map .str)) := by
  refine ⟨fun A s vs kvs R hf G r hk rk k => ?_⟩
  obtain ⟨v, rfl, rv⟩ := r.inv1
  cases kvs with
  | cons _ _ => cases hk
  | nil =>
  refine enter_plain (vars := [("s", (true, .str x))]) hf G (by rfl) (by rfl) (fun S => by rfl) (by rfl) (by exact .cons rv .nil) ?_
  intro L s₁ F
  refine ex_own F (by rfl) fun s₁ F => ?_
  refine ex_assign F ev_str fun s₁ F => ?_
  refine ex_two F ev_bool rfl fun s₁ F => ?_
  let V (st : PS) : Vars := [("quote", (true, .bool st.quo)), ("escape", (true, .bool st.esc)), ("part", (true, .str st.part))]
  let cs := x.cps.toList
  have hcl : cs.length = x.length := by simp [cs, Str.length]
  refine ex_for (fl := true) (fun i vars own => vars = V (pRun (cs.take i)) ∧ own = some (("res" : Str), .lst ((pRun (cs.take i)).res.map .str))) (fun d => [("cur", d)]) (F.sub (vars' := V (pRun (cs.take 0))) (.cons rfl (.cons rfl (.cons rfl .nil)))) hf.hh
    (sr_str (x := x) (st := some s.heap) hf.hh (by ktr_rel)) (.inr rfl) (fun _ => rfl) trivial (fun d _ => .name _ _ _) ?_ ⟨rfl, rfl⟩ ?_ ?_
  · rintro i vars' own' ⟨rfl, rfl⟩ d _
    rfl
  · rintro i d g s₂ vars' own' hd ug ⟨rfl, rfl⟩ F
    rw [List.getElem?_map] at hd
    cases hx : x.cps.toList[i]? with
    | none => rw [hx] at hd; cases hd
    | some c =>
    rw [hx] at hd; cases hd
    have ok := pRun_ok (cs.take i) pStart
    have hnext : pRun (cs.take (i + 1)) = pStep (pRun (cs.take i)) c := by
      unfold pRun; rw [List.take_add_one]; show List.foldl pStep _ (cs.take i ++ (x.cps.toList[i]?).toList) = _; rw [hx, Option.toList_some, List.foldl_append]; rfl
    rw [hnext]
    have hlt : (cs.take i).length ≤ 100000 := by rw [List.length_take]; omega
    have ok' : POk (0 + (cs.take i).length) (pRun (cs.take i)) := ok
    generalize pRun (cs.take i) = st at F ok' ⊢
    have h1 := ok'.part; have h2 := ok'.len
    have hz : (st.res.map D.str).length ≤ sizeLine := by rw [List.length_map, sizeLine_eq]; omega
    have hadd : st.part.length + (chS c).length ≤ sizeLine := by rw [sizeLine_eq, chS_len]; omega
    obtain ⟨res, part, esc, quo⟩ := st
    have go : ∀ {en : Env} {s₃ : Shared} {vs : Vars} {st' : PS}, FS en g s₃ vs (some (("res" : Str), .lst (st'.res.map .str))) → SubV vs (V st') → pStep ⟨res, part, esc, quo⟩ c = st' → Goes en g (fun vars own => vars = V (pStep ⟨res, part, esc, quo⟩ c) ∧ own = some (("res" : Str), .lst ((pStep ⟨res, part, esc, quo⟩ c).res.map .str))) s₃ := by
      intro en s₃ vs st' F' sv e
      rw [e]
      exact ⟨g, _, _, .refl _, ⟨rfl, rfl⟩, F'.sub sv⟩
    refine ex_if F (by ktr_unf) (fun s₃ F e => ?_) (fun s₃ F e1 => ex_nil ?_)
    · refine ex_aug F (by rfl) (by ktr_rel) (op_iadd_str hadd) fun s₄ F => ?_
      refine ex_assign F ev_bool fun s₅ F => ex_continue ?_
      have he : esc = true := e
      exact go (st' := ⟨res, part ++ chS c, false, quo⟩) F (.cons rfl (.cons rfl (.cons rfl .nil))) (by unfold pStep; rw [if_pos he])
    have he : esc = false := e1
    subst he
    refine ex_if F (by ktr_unf) (fun s₃ F e => ?_) (fun s₃ F e2 => ex_nil ?_)
    · have hq : quo = true := e
      subst hq
      refine ex_if F (tr_cmp (by ktr_rel) ev_str cmp_eq_str) (fun s₃ F e3 => ?_) (fun s₃ F e3 => ?_)
      · refine ex_assign F ev_bool fun s₅ F => ex_continue ?_
        exact go (st' := ⟨res, part, true, true⟩) F (.cons rfl (.cons rfl (.cons rfl .nil))) (by unfold pStep; rw [if_neg (by simp), if_pos rfl, if_pos (show (chS c == "\\") = true from e3)])
      · refine ex_if F (tr_cmp (by ktr_rel) ev_str cmp_eq_str) (fun s₃ F e4 => ?_) (fun s₃ F e4 => ex_nil (ex_nil ?_))
        · refine ex_assign F ev_bool fun s₅ F => ex_nil (ex_nil ?_)
          refine ex_aug F (by rfl) (by ktr_rel) (op_iadd_str hadd) fun s₄ F => ex_continue ?_
          exact go (st' := ⟨res, part ++ chS c, false, false⟩) F (.cons rfl (.cons rfl (.cons rfl .nil))) (by unfold pStep; rw [if_neg (by simp), if_pos rfl, if_neg (by show ¬ (chS c == "\\") = true; rw [show (chS c == "\\") = false from e3]; simp), if_pos (show (chS c == "\"") = true from e4)])
        · refine ex_aug F (by rfl) (by ktr_rel) (op_iadd_str hadd) fun s₄ F => ex_continue ?_
          exact go (st' := ⟨res, part ++ chS c, false, true⟩) F (.cons rfl (.cons rfl (.cons rfl .nil))) (by unfold pStep; rw [if_neg (by simp), if_pos rfl, if_neg (by rw [show (chS c == "\\") = false from e3]; simp), if_neg (by rw [show (chS c == "\"") = false from e4]; simp)])
    have hq : quo = false := e2
    subst hq
    refine ex_if F (tr_cmp (by ktr_rel) ev_str cmp_eq_str) (fun s₃ F e3 => ?_) (fun s₃ F e3 => ex_nil ?_)
    · refine ex_append (d := .str part) F (evb_var F (by rfl)) hz fun s₄ F => ?_
      refine ex_assign F ev_str fun s₅ F => ex_continue ?_
      refine go (st' := ⟨res ++ [part], "", false, false⟩) (by rw [List.map_append]; exact F) (.cons rfl (.cons rfl (.cons rfl .nil))) (by unfold pStep; rw [if_neg (by simp), if_neg (by simp), if_pos (show (chS c == ",") = true from e3)])
    refine ex_if F (tr_cmp (by ktr_rel) ev_str cmp_eq_str) (fun s₃ F e4 => ?_) (fun s₃ F e4 => ex_nil ?_)
    · refine ex_assign F ev_bool fun s₅ F => ex_nil ?_
      refine ex_aug F (by rfl) (by ktr_rel) (op_iadd_str hadd) fun s₄ F => ex_nil ?_
      exact go (st' := ⟨res, part ++ chS c, false, true⟩) F (.cons rfl (.cons rfl (.cons rfl .nil))) (by unfold pStep; rw [if_neg (by simp), if_neg (by simp), if_neg (by rw [show (chS c == ",") = false from e3]; simp), if_pos (show (chS c == "\"") = true from e4)])
    · refine ex_aug F (by rfl) (by ktr_rel) (op_iadd_str hadd) fun s₄ F => ex_nil ?_
      exact go (st' := ⟨res, part ++ chS c, false, false⟩) F (.cons rfl (.cons rfl (.cons rfl .nil))) (by unfold pStep; rw [if_neg (by simp), if_neg (by simp), if_neg (by rw [show (chS c == ",") = false from e3]; simp), if_neg (by rw [show (chS c == "\"") = false from e4]; simp)])
  · rintro g s₂ vars' own' ug ⟨rfl, rfl⟩ F
    have htk : cs.take (x.cps.toList.map fun c => D.str ⟨#[c]⟩).length = cs := List.take_of_length_le (by simp [cs])
    rw [htk] at F
    have ok' : POk 100000 (pRun cs) := (pRun_ok cs pStart).mono (by rw [hcl]; omega)
    have hphl : phl x = (pEnd (pRun cs)).map Txt.strip := rfl
    rw [hphl] at k
    generalize pRun cs = st at F ok' k
    obtain ⟨res, part, esc, quo⟩ := st
    have h1 := ok'.part; have h2 := ok'.len; have h3 := ok'.all
    simp only at h1 h2 h3
    have hz : (res.map D.str).length ≤ sizeLine := by rw [List.length_map, sizeLine_eq]; omega
    refine ex_if F (tr_val (by ktr_rel) (truth_str (x := part) (by rw [sizeLine_eq]; omega))) (fun s₃ F e => ?_) (fun s₃ F e => ex_nil ?_)
    · refine ex_append (d := .str part) F (evb_var F (by rfl)) hz fun s₄ F => ex_nil ?_
      have hpe : pEnd ⟨res, part, esc, quo⟩ = res ++ [part] := by unfold pEnd; rw [if_pos e]
      rw [hpe] at k
      have F := FS.ownAs F (ds' := (res ++ [part]).map D.str) (by simp)
      refine ex_return F (EvFL.ev (EvFL.as (evfl_comp (fl := true) (ds := (res ++ [part]).map .str) (fun d => [("part", d)]) (fun d => match d with | .str t => some (.str (Txt.strip t)) | _ => none) F.vs hf.hh
        (Sr.c (st := none) (by exact sr_list hf.hh (ev_own F))) (fun _ => rfl) trivial (fun d _ => .name _ _ _) (fun d _ => loc1 (P := True) rfl) (by rw [List.length_map, sizeLine_eq]; simp; omega) ?_) ?_)) fun v s' F r => k _ _ (F.keepsUp ug) r
      · intro C a0 b s' outs d hd hb F'
        obtain ⟨t, ht, rfl⟩ := List.mem_map.mp hd
        refine ⟨ts_nil, fun d' e => ?_⟩
        cases e
        have htl : t.length ≤ 100000 := by
          rcases List.mem_append.mp ht with h | h
          · have := h3 t h; omega
          · rw [List.mem_singleton.mp h]; omega
        exact evn_flat (ev_meth (by ktr_rel) meth_strip evl_nil (call_strip (by rw [sizeLine_eq]; omega)))
      · rw [List.filterMap_map, List.map_map]
        rw [← List.filterMap_eq_map]; rfl
    · have hpe : pEnd ⟨res, part, esc, quo⟩ = res := by unfold pEnd; rw [if_neg (by rw [e]; simp)]
      rw [hpe] at k
      refine ex_return F (EvFL.ev (EvFL.as (evfl_comp (fl := true) (ds := res.map .str) (fun d => [("part", d)]) (fun d => match d with | .str t => some (.str (Txt.strip t)) | _ => none) F.vs hf.hh
        (Sr.c (st := none) (by exact sr_list hf.hh (ev_own F))) (fun _ => rfl) trivial (fun d _ => .name _ _ _) (fun d _ => loc1 (P := True) rfl) hz ?_) ?_)) fun v s' F r => k _ _ (F.keepsUp ug) r
      · intro C a0 b s' outs d hd hb F'
        obtain ⟨t, ht, rfl⟩ := List.mem_map.mp hd
        refine ⟨ts_nil, fun d' e => ?_⟩
        cases e
        have htl : t.length ≤ 100000 := by have := h3 t ht; omega
        exact evn_flat (ev_meth (by ktr_rel) meth_strip evl_nil (call_strip (by rw [sizeLine_eq]; omega)))
      · rw [List.filterMap_map, List.map_map]
        rw [← List.filterMap_eq_map]; rfl
end

noncomputable def kqElt (t : Str) : String ⊕ (Str × Str) := match Txt.splitMax t "=" 1 with
  | [k, v] => match v.cps[0]? with
    | none => .inl "IndexError"
    | some c => if ((chS c == "\"") && (chS (v.cps.getD (v.cps.size - 1) 0) == "\"")) = true then .inr (k, Txt.slice v (some 1) (some (-1))) else .inr (k, v)
  | _ => .inl "ValueError"
noncomputable def kqGo : List Str → List (Str × Str) → String ⊕ List (Str × Str)
  | [], ps => .inr ps
  | t :: r, ps => match kqElt t with
    | .inl X => .inl X
    | .inr p => kqGo r (dput ps p.1 p.2)
theorem split_two (x y : Str) : (∃ a, Txt.splitMax x y 1 = [a]) ∨ ∃ a b, Txt.splitMax x y 1 = [a, b] := by
  unfold Txt.splitMax
  split
  · exact .inl ⟨_, rfl⟩
  split
  · exact .inl ⟨_, rfl⟩
  · have h1 := StrLaws.occ_length_le x y 0 x.length (limitOf x 1)
    have h2 := length_partsBetween x (Builtin.Str.occurrences x y 0 x.length (limitOf x 1)) y.length
    have h3 : limitOf x 1 = 1 := rfl
    rw [h3] at h1 h2 ⊢
    generalize Builtin.Str.partsBetween x (Builtin.Str.occurrences x y 0 x.length 1) y.length = l at h2 ⊢
    match l, h2 with
    | [a], _ => exact .inl ⟨_, rfl⟩
    | [a, b], _ => exact .inr ⟨_, _, rfl⟩
    | [], h2 => simp at h2
    | a :: b :: c :: r, h2 => simp at h2; omega
theorem raise_out {M : Model} {A : Around} {env : Env} {s b s2 s' : Shared} {vars : Vars} {own : Own} {a : Addr} {X : String} {outer : List Env} {g : Heap} {R : Result → Shared → Prop} {E₁ : Value → Shared → Prop} (hfr : A.frames = some outer) (hf : env.frame = some env.locals)
    (hkind : env.scope.kind = .function) (hg : g.StaysIn s.heap) (hFF : s.heap.FunFrames g outer) (hLg : g.get? env.locals = none) (ub : Up s b) (F : FS env b s2 vars own) (k : Keeps s2 s') (x : Heap.NewExc s2.heap s'.heap a X)
    (kerr : ∀ e a0 s'', (∃ h tk, s'' = { s with heap := h, toks := tk }) → Heap.FlyingW g outer e (.type X) a0 s''.heap → s.heap.UpToSlots s''.heap → R (.error (.ref e)) s'') :
    wpAny M (A.deeper env) (leaving env (.ref a)) (fun _ s'' => R (.error (.ref a)) s'') E₁ s' := by
  have ks := F.keepsUp ub
  obtain ⟨m, hm⟩ := F.locs
  refine leave_new (Around.frames_deeper hfr) hf (stays_trans hg (keeps_stays ks)) (Heap.FunFrames.cons (by rw [hkind]; decide) hf hm hLg (hFF.of_keeps fun b o e _ => ⟨o, keeps_stays ks b o e, rfl⟩)) x fun h' a0 fl up => kerr a a0 _ ?_ fl ((Heap.UpToSlots.of_keeps (keeps_stays ks)).trans up)
  obtain ⟨h1, t1, e1, _⟩ := keeps_trans ks k
  exact ⟨h', t1, by rw [e1]⟩
section
variable {prog : Program} {w : World} {mg mb : Str → Option Value}
theorem run_keqv {A : Around} {s : Shared} {v : Value} {R : Result → Shared → Prop} {items : List Str} {outer : List Env} {g : Heap} (hl : items.length ≤ 1000) (hl2 : ∀ t ∈ items, t.length ≤ 1000) (hf : Fit A 3) (hfr : A.frames = some outer) (G : Gr (KK3 w) mg mb s.heap)
    (hg : g.StaysIn s.heap) (hFF : s.heap.FunFrames g outer) (r : Rep s.heap v (.lst (items.map .str)))
    (kok : ∀ ps, kqGo items [] = .inr ps → ∀ a o s', Keeps s s' → s.heap.get? a = none → (a == sysModules) = false → s'.heap.get? a = some o → DS prog w o ps → R (.ok (.ret (.ref a))) s')
    (kerr : ∀ X, kqGo items [] = .inl X → ∀ e a0 s', (∃ h tk, s' = { s with heap := h, toks := tk }) → Heap.FlyingW g outer e (.type X) a0 s'.heap → s.heap.UpToSlots s'.heap → R (.error (.ref e)) s') :
    codeAny (model prog w) A (.call (.ref 28) ⟨[v], []⟩) R s := by
  refine enter_plain (vars := [("l", (true, .lst (items.map .str)))]) hf G (by rfl) (by rfl) (fun S => by rfl) (by rfl) (by exact .cons r .nil) ?_
  intro L s₁ F
  have hLg : g.get? L = none := none_stays hg F.fresh
  refine ex_own_dict F (modules_low (G.stays F.keep).nolimit) (by rfl) fun s₁ o hD F => ?_
  let V : Vars := [("l", (true, .lst (items.map .str)))]
  refine ex_for (fl := true) (fun i vars own => vars = V ∧ ∃ o ps, own = some (("parsed" : Str), .obj o) ∧ DS prog w o ps ∧ kqGo items [] = kqGo (items.drop i) ps ∧ ps.length ≤ i) (fun d => [("elt", d)]) F hf.hh
    (sr_stable (ds := items.map .str) hf.hh F (by rfl)) (.inr rfl) (fun _ => rfl) trivial (fun d _ => .name _ _ _) ?_ ⟨rfl, o, [], rfl, hD, rfl, Nat.le_refl _⟩ ?_ ?_
  · rintro i vars' own' ⟨rfl, o, ps, rfl, _⟩ d _
    rfl
  · rintro i d b s₂ vars' own' hd ub ⟨rfl, o, ps, rfl, hD, hkq, hpl⟩ F
    rw [List.getElem?_map] at hd
    cases hx : items[i]? with
    | none => rw [hx] at hd; cases hd
    | some t =>
    rw [hx] at hd; cases hd
    have hi : i < items.length := (List.getElem?_eq_some_iff.mp hx).1
    have htl : t.length ≤ 1000 := hl2 t (List.mem_of_getElem? hx)
    have hdr : items.drop i = t :: items.drop (i + 1) := by
      rw [List.drop_eq_getElem_cons hi]
      congr 1
      rw [List.getElem?_eq_getElem hi] at hx; exact Option.some.inj hx
    rw [hdr, kqGo] at hkq
    have hsp : ∀ (A : Around) (h : Heap), CallD prog w A h (.builtin "str.split") [.str t, .str "=", .int 1] (.lst ((Txt.splitMax t "=" 1).map .str)) := fun A h => call_split (by decide) (by decide) (by rw [sizeLine_eq]; omega)
    rcases split_two t "=" with ⟨p, hp⟩ | ⟨p, q, hp⟩
    · have he : kqElt t = .inl "ValueError" := by unfold kqElt; rw [hp]
      rw [he] at hkq
      simp only [hp] at hsp
      refine ex_unpack2X (d1 := .str p) hf.hh (ev_meth (by ktr_rel) meth_split (by kwd_rel) (hsp _ _)) fun a s' k x => PassesOwn.leaving _ _ (raise_out hfr rfl rfl hg hFF hLg ub F k x (kerr _ hkq))
    · simp only [hp] at hsp
      have hq := partMax_short (x := t) (y := "=") (k := 1) (a := q) (by rw [hp]; simp)
      refine ex_unpack2 (d1 := .str p) (d2 := .str q) hf.hh F (ev_meth (by ktr_rel) meth_split (by kwd_rel) (hsp _ _)) fun s₃ F => ?_
      cases hc : q.cps[0]? with
      | none =>
        have he : kqElt t = .inl "IndexError" := by unfold kqElt; rw [hp]; simp only [hc]
        rw [he] at hkq
        have hq0 : q.length ≤ (0 : Int).toNat := by
          have : q.cps.size ≤ 0 := by simpa using hc
          exact this
        refine ex_ifX (trx_and (trx_cmp (evx_item_str0 hf.hh (by ktr_rel) ev_int (by decide) (by decide) hq0))) fun a s' k x => PassesOwn.leaving _ _ (raise_out hfr rfl rfl hg hFF hLg ub F k x (kerr _ hkq))
      | some c =>
        have hq0 : 0 < q.cps.size := (Array.getElem?_eq_some_iff.mp hc).1
        have hlast : q.cps[q.cps.size - 1]? = some (q.cps.getD (q.cps.size - 1) 0) := by
          rw [Array.getElem?_eq_getElem (by omega)]
          simp [Array.getD_eq_getD_getElem?, Array.getElem?_eq_getElem (show q.cps.size - 1 < q.cps.size by omega)]
        have hqs : q.cps.size = q.length := rfl
        refine ex_if (b := (chS c == "\"") && (chS (q.cps.getD (q.cps.size - 1) 0) == "\"")) F (tr_and (tr_cmp (ev_item (by ktr_rel) ev_int (op_item_str (by decide) (by decide) (by exact hc))) ev_str cmp_eq_str) fun _ => tr_and1 (tr_cmp (ev_item (by ktr_rel) (by exact ev_neg ev_int) (op_last_str (by omega) hlast)) ev_str cmp_eq_str)) (fun s₄ F e => ?_) (fun s₄ F e => ex_nil ?_)
        · have he : kqElt t = .inr (p, Txt.slice q (some 1) (some (-1))) := by unfold kqElt; rw [hp]; simp only [hc]; rw [if_pos e]
          rw [he] at hkq
          refine ex_assign F (ev_slice_str (by ktr_rel) (part_some ev_int) (part_some (by exact ev_neg ev_int)) (by rw [sizeLine_eq]; omega)) fun s₅ F => ex_nil ?_
          refine ex_dset (v := Txt.slice q (some 1) (some (-1))) (k := p) hD F (by ktr_rel) (by ktr_rel) (by rw [sizeLine_eq]; omega) fun s₆ o' hD' F => ex_nil ⟨b, _, _, .refl _, ⟨rfl, o', _, rfl, hD', hkq, ?_⟩, F.sub (.cons rfl .nil)⟩
          have := dput_len ps p (Txt.slice q (some 1) (some (-1))); omega
        · have he : kqElt t = .inr (p, q) := by unfold kqElt; rw [hp]; simp only [hc]; rw [if_neg (by rw [e]; simp)]
          rw [he] at hkq
          refine ex_dset (v := q) (k := p) hD F (by ktr_rel) (by ktr_rel) (by rw [sizeLine_eq]; omega) fun s₆ o' hD' F => ex_nil ⟨b, _, _, .refl _, ⟨rfl, o', _, rfl, hD', hkq, ?_⟩, F.sub (.cons rfl .nil)⟩
          have := dput_len ps p q; omega
  · rintro b s₂ vars' own' ub ⟨rfl, o, ps, rfl, hD, hkq, hpl⟩ F
    rw [List.length_map, List.drop_length] at hkq
    refine ex_return_obj F fun a fr hlow ho => kok ps hkq a o _ (F.keepsUp ub) (none_stays ub.2 fr) hlow ho hD
end

theorem kit_ss (w : World) : kitOne (KK3 w) (.type "str") (.type "str") = some true := by kernel_rfl
theorem kit_bs (w : World) : kitOne (KK3 w) (.type "bytes") (.type "str") = some false := by kernel_rfl
theorem kit_bt (w : World) : kitAny (KK3 w) (.type "bytes") [.type "bytes", .type "bytearray"] = some true := by kernel_rfl
section
variable {prog : Program} {w : World} {mg mb : Str → Option Value}
theorem fn_bfdd_str {x : Str} (ha : ∀ c ∈ x.cps.toList, c < 128) (hz : x.length ≤ 10000) : Fn prog w (KK3 w) mg mb 2 41 [.str x] [] (.bytes (asBytes x)) := by
  refine ⟨fun A s vs kvs R hf G r hk rk k => ?_⟩
  obtain ⟨v, rfl, rv⟩ := r.inv1
  obtain rfl := kv0 hk
  refine enter_plain (vars := [("s", (true, .str x))]) hf G (by rfl) (by rfl) (fun S => by rfl) (by rfl) (by exact .cons rv .nil) ?_
  intro L s₁ F
  refine ex_if F (tr_val (ev_call (nm_boot (G.stays F.keep) (by rfl) Boot.isinstance) (.builtin _) (evl_cons (by ktr_rel) (evl_cons (ev_type (nm_boot (G.stays F.keep) (by rfl) Boot.str)) evl_nil)) (call_isinstance1 (d := .str x) (b := true) (G.stays F.keep) (kit_ss w))) truth_bool) (fun s₃ F e => ?_) (fun s₃ F e => by cases e)
  refine ex_try ?_
  exact ex_return (d := .bytes (asBytes x)) F (ev_meth (by ktr_rel) meth_encode (by kwd_rel) (call_encode ha (by rw [sizeLine_eq]; omega))) fun v s' F r => k _ _ F.keeps r
theorem fn_bfdd_bytes {b : Array UInt8} : Fn prog w (KK3 w) mg mb 2 41 [.bytes b] [] (.bytes b) := by
  refine ⟨fun A s vs kvs R hf G r hk rk k => ?_⟩
  obtain ⟨v, rfl, rv⟩ := r.inv1
  obtain rfl := kv0 hk
  refine enter_plain (vars := [("s", (true, .bytes b))]) hf G (by rfl) (by rfl) (fun S => by rfl) (by rfl) (by exact .cons rv .nil) ?_
  intro L s₁ F
  refine ex_if F (tr_val (ev_call (nm_boot (G.stays F.keep) (by rfl) Boot.isinstance) (.builtin _) (evl_cons (by ktr_rel) (evl_cons (ev_type (nm_boot (G.stays F.keep) (by rfl) Boot.str)) evl_nil)) (call_isinstance1 (d := .bytes b) (b := false) (G.stays F.keep) (kit_bs w))) truth_bool) (fun s₃ F e => by cases e) (fun s₃ F e => ex_nil ?_)
  refine ex_if F (tr_val (call_isinstance_tup (d := .bytes b) (its := [.type "bytes", .type "bytearray"]) (b := true) (G.stays F.keep) (nm_boot (G.stays F.keep) (by rfl) Boot.isinstance) (nm_glob (v := .ref 34) (G.stays F.keep) (by rfl)) (by rfl) (by ktr_rel) (kit_bt w)) truth_bool) (fun s₃ F e => ?_) (fun s₃ F e => by cases e)
  exact ex_return (d := .bytes b) F (by ktr_rel) fun v s' F r => k _ _ F.keeps r
theorem fn_ascii_buffer {b : Array UInt8} : Fn prog w (KK3 w) mg mb 2 61 [.bytes b] [] (.bytes b) := by
  refine ⟨fun A s vs kvs R hf G r hk rk k => ?_⟩
  obtain ⟨v, rfl, rv⟩ := r.inv1
  obtain rfl := kv0 hk
  refine enter_plain (vars := [("data", (true, .bytes b))]) hf G (by rfl) (by rfl) (fun S => by rfl) (by rfl) (by exact .cons rv .nil) ?_
  intro L s₁ F
  refine ex_assign F (ev_call (nm_boot (G.stays F.keep) (by rfl) Boot.type) (.type _) (by kwd_rel) (call_type (by rfl))) fun s₁ F => ?_
  refine ex_if F (tr_cmp (by ktr_rel) (ev_type (nm_boot (G.stays F.keep) (by rfl) Boot.str)) cmp_is_ty) (fun s₁ F e => by cases e) (fun s₁ F e => ex_nil ?_)
  refine ex_if F (tr_cmp (by ktr_rel) (ev_type (nm_boot (G.stays F.keep) (by rfl) Boot.bytes)) cmp_is_ty) (fun s₁ F e => ?_) (fun s₁ F e => by cases e)
  exact ex_return (d := .bytes b) F (by ktr_rel) fun v s' F r => k _ _ F.keeps r
end

section
variable {prog : Program} {w : World} {mg mb : Str → Option Value}
theorem fn_buffer {b : Array UInt8} : Fn prog w (KK3 w) mg mb 2 68 [.bytes b] [] (.bytes b) := by
  refine ⟨fun A s vs kvs R hf G r hk rk k => ?_⟩
  obtain ⟨v, rfl, rv⟩ := r.inv1
  cases kvs with
  | cons _ _ => cases hk
  | nil =>
  refine enter_plain (vars := [("data", (true, .bytes b))]) hf G (by rfl) (by rfl) (fun S => by rfl) (by rfl) (by exact .cons rv .nil) ?_
  intro L s₁ F
  refine ex_assign F (ev_call (nm_boot (G.stays F.keep) (by rfl) Boot.type) (.type _) (by kwd_rel) (call_type (by rfl))) fun s₁ F => ?_
  refine ex_if F (tr_cmp (by ktr_rel) (ev_type (nm_boot (G.stays F.keep) (by rfl) Boot.bytes)) cmp_is_ty) (fun s₁ F e => ?_) (fun s₁ F e => ?_)
  · exact ex_return F (by ktr_rel) fun v s' F r => k _ _ F.keeps r
  · cases e

theorem fn_truth {x : Bool} : Fn prog w (KK3 w) mg mb 2 75 [.bool x] [] (.bool x) := by
  refine ⟨fun A s vs kvs R hf G r hk rk k => ?_⟩
  obtain ⟨v, rfl, rv⟩ := r.inv1
  obtain rfl := kv0 hk
  refine enter_plain (vars := [("x", (true, .bool x))]) hf G (by rfl) (by rfl) (fun S => by rfl) (by rfl) (by exact .cons rv .nil) ?_
  intro L s₁ F
  refine ex_assign F (ev_call (nm_boot (G.stays F.keep) (by rfl) Boot.type) (.type _) (by kwd_rel) (call_type (by rfl))) fun s₁ F => ?_
  refine ex_if (b := false || (true || true)) F (tr_or (tr_cmp (by ktr_rel) (by ktr_rel) cmp_is_bool_none) fun _ => tr_or (tr_cmp (by ktr_rel) (ev_type (nm_boot (G.stays F.keep) (by rfl) Boot.bool)) cmp_is_ty) (fun q => by cases q)) (fun s₁ F e => ?_) (fun s₁ F e => ?_)
  · refine ex_return (d := .bool x) F (ev_ifexp (c := x) (by ktr_unf) (fun e => by subst e; exact ev_bool) (fun e => by subst e; exact ev_bool)) fun v s' F r => k _ _ F.keeps r
  · cases e

/-- base 64's signs -/
noncomputable def sgn : List UInt8 := [65, 66, 67, 68, 69, 70, 71, 72, 73, 74, 75, 76, 77, 78, 79, 80, 81, 82, 83, 84, 85, 86, 87, 88, 89, 90, 97, 98, 99, 100, 101, 102, 103, 104, 105, 106, 107, 108, 109, 110, 111, 112, 113, 114, 115, 116, 117, 118, 119, 120, 121, 122, 48, 49, 50, 51, 52, 53, 54, 55, 56, 57, 43, 47]
noncomputable def sg (i : Int) : Int := (sgn.getD i.toNat 0).toNat
noncomputable def wh (lc : Int) : Nat → List Int → List Int × Nat
  | n + 6, o => wh lc n (o ++ [sg (lc / 2 ^ n % 64)])
  | n, o => (o, n)
noncomputable def stp (st : List Int × Nat × Int) (b : Int) : List Int × Nat × Int :=
  ((wh ((st.2.2 * 256 + b) % 65536) (st.2.1 + 8) st.1).1, (wh ((st.2.2 * 256 + b) % 65536) (st.2.1 + 8) st.1).2, (st.2.2 * 256 + b) % 65536)
noncomputable def fin (st : List Int × Nat × Int) : List Int :=
  if st.2.1 = 2 then st.1 ++ [sg (st.2.2 % 4 * 16), 61, 61]
  else if st.2.1 = 4 then st.1 ++ [sg (st.2.2 % 16 * 4), 61] else st.1
noncomputable def b2a (bs : List Int) : List Int := fin (bs.foldl stp ([], 0, 0))
theorem sg_byte (i : Int) : 0 ≤ sg i ∧ sg i < 256 := ⟨Int.natCast_nonneg _, by unfold sg; have := (sgn.getD i.toNat 0).toNat_lt; omega⟩
theorem wh_ok (lc : Int) : ∀ (n : Nat) (o : List Int), (∀ x ∈ o, 0 ≤ x ∧ x < 256) → (∀ x ∈ (wh lc n o).1, 0 ≤ x ∧ x < 256) ∧ (wh lc n o).1.length ≤ o.length + n / 6 ∧ (wh lc n o).2 = n % 6
  | n + 6, o, ho => by
    have ih := wh_ok lc n (o ++ [sg (lc / 2 ^ n % 64)]) (fun x hx => by
      rcases List.mem_append.mp hx with h | h
      · exact ho x h
      · rw [List.mem_singleton.mp h]; exact sg_byte _)
    rw [wh]
    refine ⟨ih.1, ?_, ?_⟩
    · have := ih.2.1; rw [List.length_append] at this; simp at this; omega
    · rw [ih.2.2]; omega
  | 0, o, ho => ⟨ho, by simp [wh], rfl⟩
  | 1, o, ho => ⟨ho, by simp [wh], rfl⟩
  | 2, o, ho => ⟨ho, by simp [wh], rfl⟩
  | 3, o, ho => ⟨ho, by simp [wh], rfl⟩
  | 4, o, ho => ⟨ho, by simp [wh], rfl⟩
  | 5, o, ho => ⟨ho, by simp [wh], rfl⟩
theorem wh_small {lc : Int} {o : List Int} : ∀ {n : Nat}, n < 6 → wh lc n o = (o, n)
  | 0, _ => rfl
  | 1, _ => rfl
  | 2, _ => rfl
  | 3, _ => rfl
  | 4, _ => rfl
  | 5, _ => rfl
  | n + 6, h => absurd h (by omega)
structure StOk (k : Nat) (st : List Int × Nat × Int) : Prop where
  bytes : ∀ x ∈ st.1, 0 ≤ x ∧ x < 256
  len : st.1.length ≤ 2 * k
  lb : st.2.1 = 0 ∨ st.2.1 = 2 ∨ st.2.1 = 4
  lc : 0 ≤ st.2.2 ∧ st.2.2 < 65536
theorem stp_ok {k : Nat} {st : List Int × Nat × Int} {b : Int} (h : StOk k st) : StOk (k + 1) (stp st b) := by
  have w := wh_ok ((st.2.2 * 256 + b) % 65536) (st.2.1 + 8) st.1 h.bytes
  refine ⟨w.1, ?_, ?_, ?_⟩
  · have := w.2.1; have := h.len; have := h.lb
    show (wh _ _ _).1.length ≤ _
    omega
  · show (wh _ _ _).2 = 0 ∨ (wh _ _ _).2 = 2 ∨ (wh _ _ _).2 = 4
    rw [w.2.2]; have := h.lb; omega
  · show 0 ≤ (st.2.2 * 256 + b) % 65536 ∧ (st.2.2 * 256 + b) % 65536 < 65536
    omega
theorem fold_ok : ∀ (bs : List Int) {k : Nat} {st : List Int × Nat × Int}, StOk k st → StOk (k + bs.length) (bs.foldl stp st)
  | [], _, _, h => h
  | b :: bs, k, st, h => by
    have := fold_ok bs (stp_ok (b := b) h)
    rw [List.length_cons, List.foldl_cons]
    rw [show k + (bs.length + 1) = k + 1 + bs.length from by omega]
    exact this
theorem start_ok : StOk 0 ([], 0, 0) := ⟨(fun x h => by cases h), by simp, .inl rfl, by decide⟩
theorem q4 (x : Int) : 0 ≤ x % 4 ∧ x % 4 < 2 ^ 64 := by omega
theorem q4m (x : Int) : 0 ≤ x % 4 * 16 ∧ x % 4 * 16 < 64 := by omega
theorem q16 (x : Int) : 0 ≤ x % 16 ∧ x % 16 < 2 ^ 64 := by omega
theorem q16m (x : Int) : 0 ≤ x % 16 * 4 ∧ x % 16 * 4 < 64 := by omega
theorem q64 (x : Int) : 0 ≤ x % 64 ∧ x % 64 < 64 := by omega
theorem op_item_b64 {A : Around} {k : Int} (h0 : 0 ≤ k) (h1 : k < 64) : Op prog w A .item (.bytes sgn.toArray) (.int k) (.int (sg k)) := op_item_bytes (by decide) h0 h1
theorem fn_b2a {b : Array UInt8} (hz : b.size ≤ 1000) : Fn prog w (KK3 w) mg mb 5 98 [.bytes b] [("newline", .bool false)] (.bytes (byteArr (b2a (b.toList.map fun c => (c.toNat : Int))))) := by
  refine ⟨fun A s vs kvs R hf G r hk rk k => ?_⟩
  obtain ⟨v, rfl, rv⟩ := r.inv1
  obtain ⟨v', rfl, rv'⟩ := kv1 hk rk
  refine enter_plain (vars := [("newline", (true, .bool false)), ("data", (true, .bytes b))]) hf G (by rfl) (by rfl) (fun S => by rfl) (by rfl) (by exact .cons rv' (.cons rv .nil)) ?_
  intro L s₁ F
  refine ex_assign F (ev_fn (G.stays F.keep) (hf.deeper.le (by decide)) fn_buffer (by kwd_rel)) fun s₁ F => ?_
  refine ex_assign F (ev_fn (G.stays F.keep) (hf.deeper.le (by decide)) fn_truth (by kwd_rel)) fun s₁ F => ?_
  refine ex_own F (by rfl) fun s₁ F => ?_
  refine ex_assign F (by ktr_rel) fun s₁ F => ?_
  refine ex_assign F (by ktr_rel) fun s₁ F => ?_
  let bi : List Int := b.toList.map fun c => (c.toNat : Int)
  let V (st : List Int × Nat × Int) : Vars := [("leftchar", (true, .int st.2.2)), ("leftbits", (true, .int st.2.1)), ("newline", (true, .bool false))]
  refine ex_for (fl := true) (fun i vars own => vars = V ((bi.take i).foldl stp ([], 0, 0)) ∧ own = some (("out" : Str), .lst (((bi.take i).foldl stp ([], 0, 0)).1.map D.int))) (fun d => [("b", d)]) (F.sub (vars' := V ([], 0, 0)) (.cons rfl (.cons rfl (.cons rfl .nil)))) hf.hh
    (sr_bytes (b := b) hf.hh (by ktr_rel)) (.inr rfl) (fun _ => rfl) trivial (fun d _ => .name _ _ _) ?_ ⟨rfl, rfl⟩ ?_ ?_
  · rintro i vars' own' ⟨rfl, rfl⟩ d _
    rfl
  · rintro i d g s₂ vars' own' hd ug ⟨rfl, rfl⟩ F
    have hbi : bi[i]? = some ((b.toList.getD i 0).toNat : Int) ∧ d = .int ((b.toList.getD i 0).toNat : Int) := by
      have hlt : i < b.toList.length := by simpa using (List.getElem?_eq_some_iff.mp hd).1
      simp [bi, List.getElem?_eq_getElem hlt, List.getD_eq_getElem?_getD] at hd ⊢
      simp [hd.symm]
    obtain ⟨hbi, rfl⟩ := hbi
    rw [List.take_add_one, hbi, Option.toList_some, List.foldl_append]
    have ok := fold_ok (bi.take i) start_ok
    have hlen : (bi.take i).length ≤ 1000 := by
      rw [List.length_take]
      have : bi.length = b.size := by simp [bi]
      omega
    have hb0 : 0 ≤ ((b.toList.getD i 0).toNat : Int) ∧ ((b.toList.getD i 0).toNat : Int) < 256 := ⟨by omega, by have := (b.toList.getD i 0).toNat_lt; omega⟩
    generalize ((b.toList.getD i 0).toNat : Int) = y at F hb0 ⊢
    generalize (bi.take i).foldl stp ([], 0, 0) = st at F ok ⊢
    have hG := fun {s' : Shared} (k : g.heap.StaysIn s'.heap) => G.stays (stays_trans ug.2 k)
    have hlc := ok.lc
    refine ex_assign F (ev_binop (ev_binop (ev_binop (by ktr_rel) ev_int (op_shl8 hlc.1 (by omega))) (by ktr_rel) (op_or8 hlc.1 hb0.1 hb0.2)) ev_int (op_and65535 (by omega))) fun s₁ F => ?_
    refine ex_assign F (by ktr_rel) fun s₁ F => ?_
    have hlc0 : 0 ≤ (st.2.2 * 256 + y) % 65536 := by omega
    generalize hlc' : (st.2.2 * 256 + y) % 65536 = lc at F hlc0
    let W (n : Nat) : Vars := [("leftbits", (true, .int n)), ("leftchar", (true, .int lc)), ("newline", (true, .bool false))]
    refine ex_while (fun n vars own => vars = W n ∧ ∃ o : List Int, own = some (("out" : Str), .lst (o.map D.int)) ∧ wh lc n o = wh lc (st.2.1 + 8) st.1 ∧ o.length + n ≤ 4000) (st.2.1 + 8)
      (F.sub (vars' := W (st.2.1 + 8)) (.cons rfl (.cons rfl (.cons rfl .nil)))) ⟨rfl, st.1, rfl, rfl, by have := ok.len; have := ok.lb; omega⟩ ?_
    rintro n g' s₃ vars' own' ug' ⟨rfl, o, rfl, ho, hol⟩ F
    refine ⟨_, (by ktr_unf), fun s₄ F e => ?_, fun s₄ F e => ?_⟩
    · obtain ⟨m, rfl⟩ : ∃ m, n = m + 6 := ⟨n - 6, by simp at e; omega⟩
      have hsub : (((m + 6 : Nat) : Int) - 6) = (m : Int) := by omega
      have hnn : 0 ≤ lc / 2 ^ m := Int.ediv_nonneg hlc0 (Int.le_of_lt (Int.pow_pos (by decide)))
      refine ex_append (d := .int (sg (lc / 2 ^ m % 64))) F (evb_flat (ev_item (ev_glob (nm_glob (v := .bytes sgn.toArray _) (hG (stays_trans ug'.2 F.keep)) (by rfl)) (.bytes _ _))
        (ev_binop (ev_binop (d2 := .int m) (by ktr_rel) (ev_as (by rw [hsub]) (ev_binop (by ktr_rel) ev_int op_sub_int)) (op_shr (by omega))) ev_int (op_and63 hnn)) (op_item_b64 (q64 _).1 (q64 _).2))) (by rw [List.length_map, sizeLine_eq]; omega) fun s₅ F => ?_
      refine ex_assign F (ev_as (by rw [hsub]) (ev_binop (by ktr_rel) ev_int op_sub_int)) fun s₆ F => ex_nil ⟨m, by omega, g', _, _, .refl _, ⟨rfl, o ++ [sg (lc / 2 ^ m % 64)], by rw [List.map_append]; rfl, by rw [← ho]; rfl, by simp; omega⟩, F.sub (.cons rfl (.cons rfl (.cons rfl .nil)))⟩
    · have hn : n < 6 := by simp at e; omega
      have hw : wh lc n o = (o, n) := wh_small hn
      rw [hw] at ho
      have e1 : stp st y = (o, n, lc) := by
        unfold stp
        rw [hlc', ← ho]
      refine ex_nil ⟨g', _, _, ug', ⟨rfl, rfl⟩, ?_⟩
      show FS _ g' s₄ (V (stp st y)) (some (("out" : Str), .lst ((stp st y).1.map D.int)))
      rw [e1]
      exact F.sub (.cons rfl (.cons rfl (.cons rfl .nil)))
  · rintro g s₂ vars' own' ug ⟨rfl, rfl⟩ F
    have hbl : bi.length = b.size := by simp [bi]
    have htk : bi.take (b.toList.map fun c => D.int (c.toNat : Int)).length = bi := List.take_of_length_le (by simp [bi])
    rw [htk] at F
    have ok := fold_ok bi start_ok
    have hb2a : b2a bi = fin (bi.foldl stp ([], 0, 0)) := rfl
    have hlen := ok.len
    rw [Nat.zero_add, hbl] at hlen
    generalize bi.foldl stp ([], 0, 0) = st at F ok hb2a hlen
    have hlc := ok.lc
    have hG := fun {s' : Shared} (k : g.heap.StaysIn s'.heap) => G.stays (stays_trans ug.2 k)
    have hz1 : ∀ (o : List Int), o.length ≤ st.1.length + 10 → (o.map D.int).length ≤ sizeLine := fun o ho => by rw [List.length_map, sizeLine_eq]; omega
    refine ex_if F (by ktr_unf) (fun s₃ F e => ?_) (fun s₃ F e => ?_)
    · have e2 : st.2.1 = 2 := by simp at e; omega
      refine ex_append (d := .int (sg (st.2.2 % 4 * 16))) F (evb_flat (ev_item (ev_glob (nm_glob (v := .bytes sgn.toArray _) (hG F.keep) (by rfl)) (.bytes _ _))
        (ev_binop (ev_binop (by ktr_rel) ev_int (op_and3 hlc.1)) ev_int (op_shl4 (q4 _).1 (q4 _).2)) (op_item_b64 (q4m _).1 (q4m _).2))) (hz1 _ (Nat.le_add_right _ _)) fun s₄ F => ?_
      refine ex_append (d := .int 61) F (evb_flat ev_int) (by simp [sizeLine_eq]; omega) fun s₄ F => ?_
      refine ex_append (d := .int 61) F (evb_flat ev_int) (by simp [sizeLine_eq]; omega) fun s₄ F => ?_
      refine ex_nil (ex_if F (by ktr_unf) (fun s₅ F e => by cases e) fun s₅ F e => ex_nil ?_)
      have hfin : b2a bi = st.1 ++ [sg (st.2.2 % 4 * 16)] ++ [61] ++ [61] := by rw [hb2a]; simp [fin, e2]
      refine ex_return (d := .bytes (byteArr (b2a bi))) F (ev_call (nm_boot (hG F.keep) (by rfl) Boot.bytes) (.type _) (evl_cons (Ev.as (d' := .lst ((b2a bi).map D.int)) (by ktr_rel) (by rw [hfin]; simp)) evl_nil) (call_bytes_ints hf.hh ?_ ?_)) fun v s' F r => k _ _ (F.keepsUp ug) r
      · rw [hfin]; intro n hn
        simp only [List.mem_append, List.mem_singleton] at hn
        rcases hn with ((hn | rfl) | rfl) | rfl
        · exact ok.bytes n hn
        · exact sg_byte _
        · decide
        · decide
      · rw [hfin, sizeLine_eq]; simp; omega
    · have e2 : st.2.1 ≠ 2 := by simp at e; omega
      refine ex_if F (by ktr_unf) (fun s₃ F e => ?_) (fun s₃ F e => ?_)
      · have e4 : st.2.1 = 4 := by simp at e; omega
        refine ex_append (d := .int (sg (st.2.2 % 16 * 4))) F (evb_flat (ev_item (ev_glob (nm_glob (v := .bytes sgn.toArray _) (hG F.keep) (by rfl)) (.bytes _ _))
          (ev_binop (ev_binop (by ktr_rel) ev_int (op_and15 hlc.1)) ev_int (op_shl2 (q16 _).1 (q16 _).2)) (op_item_b64 (q16m _).1 (q16m _).2))) (hz1 _ (Nat.le_add_right _ _)) fun s₄ F => ?_
        refine ex_append (d := .int 61) F (evb_flat ev_int) (by simp [sizeLine_eq]; omega) fun s₄ F => ?_
        refine ex_nil (ex_nil (ex_if F (by ktr_unf) (fun s₅ F e => by cases e) fun s₅ F e => ex_nil ?_))
        have hfin : b2a bi = st.1 ++ [sg (st.2.2 % 16 * 4)] ++ [61] := by rw [hb2a]; simp [fin, e4]
        refine ex_return (d := .bytes (byteArr (b2a bi))) F (ev_call (nm_boot (hG F.keep) (by rfl) Boot.bytes) (.type _) (evl_cons (Ev.as (d' := .lst ((b2a bi).map D.int)) (by ktr_rel) (by rw [hfin]; simp)) evl_nil) (call_bytes_ints hf.hh ?_ ?_)) fun v s' F r => k _ _ (F.keepsUp ug) r
        · rw [hfin]; intro n hn
          simp only [List.mem_append, List.mem_singleton] at hn
          rcases hn with (hn | rfl) | rfl
          · exact ok.bytes n hn
          · exact sg_byte _
          · decide
        · rw [hfin, sizeLine_eq]; simp; omega
      · have e4 : st.2.1 ≠ 4 := by simp at e; omega
        refine ex_nil (ex_nil (ex_if F (by ktr_unf) (fun s₅ F e => by cases e) fun s₅ F e => ex_nil ?_))
        have hfin : b2a bi = st.1 := by rw [hb2a]; simp [fin, e2, e4]
        refine ex_return (d := .bytes (byteArr (b2a bi))) F (ev_call (nm_boot (hG F.keep) (by rfl) Boot.bytes) (.type _) (evl_cons (Ev.as (d' := .lst ((b2a bi).map D.int)) (by ktr_rel) (by rw [hfin])) evl_nil) (call_bytes_ints hf.hh ?_ ?_)) fun v s' F r => k _ _ (F.keepsUp ug) r
        · rw [hfin]; exact ok.bytes
        · rw [hfin, sizeLine_eq]; omega
end

section
variable {prog : Program} {w : World} {mg mb : Str → Option Value}
end

noncomputable def b64v (c : Int) : Int := if 65 ≤ c ∧ c ≤ 90 then c - 65 else if 97 ≤ c ∧ c ≤ 122 then c - 71 else if 48 ≤ c ∧ c ≤ 57 then c + 4 else if c = 43 then 62 else if c = 47 then 63 else 64
section
variable {prog : Program} {w : World} {mg mb : Str → Option Value}
theorem fn_b64_value {c : Int} : Fn prog w (KK3 w) mg mb 1 82 [.int c] [] (.int (b64v c)) := by
  refine ⟨fun A s vs kvs R hf G r hk rk k => ?_⟩
  obtain ⟨v, rfl, rv⟩ := r.inv1
  cases kvs with
  | cons _ _ => cases hk
  | nil =>
  cases rv with
  | int _ t =>
  refine enter_plain (vars := [("c", (true, .int c))]) hf G (by rfl) (by rfl) (fun S => by rfl) (by rfl) (.cons (.int _ _) .nil) ?_
  intro L s₁ F
  refine ex_if F (by ktr_unf) (fun s₁ F e => ?_) (fun s₁ F e1 => ex_nil ?_)
  · refine ex_return F (by ktr_rel) fun v s' F r => k _ _ F.keeps ?_
    simp at e; simpa [b64v, e] using r
  refine ex_if F (by ktr_unf) (fun s₁ F e => ?_) (fun s₁ F e2 => ex_nil ?_)
  · refine ex_return F (by ktr_rel) fun v s' F r => k _ _ F.keeps ?_
    have : b64v c = c - 71 := by simp at e e1; unfold b64v; rw [if_neg (by omega), if_pos (by omega)]
    rw [this]; exact r
  refine ex_if F (by ktr_unf) (fun s₁ F e => ?_) (fun s₁ F e3 => ex_nil ?_)
  · refine ex_return F (by ktr_rel) fun v s' F r => k _ _ F.keeps ?_
    have : b64v c = c + 4 := by simp at e e1 e2; unfold b64v; rw [if_neg (by omega), if_neg (by omega), if_pos (by omega)]
    rw [this]; exact r
  refine ex_if F (by ktr_unf) (fun s₁ F e => ?_) (fun s₁ F e4 => ex_nil ?_)
  · refine ex_return F (by ktr_rel) fun v s' F r => k _ _ F.keeps ?_
    have : b64v c = 62 := by simp at e; subst e; rfl
    rw [this]; exact r
  refine ex_if F (by ktr_unf) (fun s₁ F e => ?_) (fun s₁ F e5 => ex_nil ?_)
  · refine ex_return F (by ktr_rel) fun v s' F r => k _ _ F.keeps ?_
    have : b64v c = 63 := by simp at e; subst e; rfl
    rw [this]; exact r
  refine ex_return F (by ktr_rel) fun v s' F r => k _ _ F.keeps ?_
  have : b64v c = 64 := by simp at e1 e2 e3 e4 e5; unfold b64v; rw [if_neg (by omega), if_neg (by omega), if_neg (by omega), if_neg (by omega), if_neg (by omega)]
  rw [this]; exact r
end

structure AS where
  o : List Int
  q : Int
  l : Int
  p : Int
noncomputable def aStep (st : AS) (c : Int) : AS :=
  if c = 61 then { st with p := st.p + 1 }
  else if 64 ≤ b64v c then st
  else if st.q = 0 then ⟨st.o, 1, b64v c, 0⟩
  else if st.q = 1 then ⟨st.o ++ [st.l * 4 + b64v c / 16], 2, b64v c % 16, 0⟩
  else if st.q = 2 then ⟨st.o ++ [st.l * 16 + b64v c / 4], 3, b64v c % 4, 0⟩
  else ⟨st.o ++ [st.l * 64 + b64v c], 0, 0, 0⟩
noncomputable def aRun (cs : List Int) : AS := cs.foldl aStep ⟨[], 0, 0, 0⟩
structure AOk (k : Nat) (st : AS) : Prop where
  bytes : ∀ x ∈ st.o, 0 ≤ x ∧ x < 256
  len : st.o.length ≤ k
  q : st.q = 0 ∨ (st.q = 1 ∧ 0 ≤ st.l ∧ st.l < 64) ∨ (st.q = 2 ∧ 0 ≤ st.l ∧ st.l < 16) ∨ (st.q = 3 ∧ 0 ≤ st.l ∧ st.l < 4)
theorem b64v_nonneg (c : Int) : 0 ≤ b64v c := by
  unfold b64v
  split
  · omega
  split
  · omega
  split
  · omega
  split
  · omega
  split <;> omega
theorem aStep_ok {k : Nat} {st : AS} {c : Int} (h : AOk k st) : AOk (k + 1) (aStep st c) := by
  have h0 := b64v_nonneg c
  have hb := h.bytes; have hl := h.len; have hq := h.q
  have app : ∀ y : Int, 0 ≤ y → y < 256 → ∀ x ∈ st.o ++ [y], 0 ≤ x ∧ x < 256 := fun y h1 h2 x hx => by
    rcases List.mem_append.mp hx with hx | hx
    · exact hb x hx
    · rw [List.mem_singleton.mp hx]; exact ⟨h1, h2⟩
  unfold aStep
  split
  · exact ⟨hb, by show st.o.length ≤ k + 1; omega, hq⟩
  split
  · exact ⟨hb, by omega, hq⟩
  split
  · exact ⟨hb, by show st.o.length ≤ k + 1; omega, .inr (.inl ⟨rfl, h0, by show b64v c < 64; omega⟩)⟩
  split
  · exact ⟨app _ (by omega) (by omega), by simp; omega, .inr (.inr (.inl ⟨rfl, by show 0 ≤ b64v c % 16; omega, by show b64v c % 16 < 16; omega⟩))⟩
  split
  · exact ⟨app _ (by omega) (by omega), by simp; omega, .inr (.inr (.inr ⟨rfl, by show 0 ≤ b64v c % 4; omega, by show b64v c % 4 < 4; omega⟩))⟩
  · exact ⟨app _ (by omega) (by omega), by simp; omega, .inl rfl⟩
theorem aRun_ok (cs : List Int) : ∀ {k : Nat} {st : AS}, AOk k st → AOk (k + cs.length) (cs.foldl aStep st) := by
  induction cs with
  | nil => intro k st h; exact h
  | cons c r ih => intro k st h; rw [List.foldl_cons, List.length_cons, show k + (r.length + 1) = k + 1 + r.length by omega]; exact ih (aStep_ok h)
theorem aStart : AOk 0 (AS.mk [] 0 0 0) := ⟨fun x h => (by cases h), Nat.le_refl _, .inl rfl⟩
noncomputable def octs (b : Array UInt8) : List Int := b.toList.map fun c => (c.toNat : Int)
theorem octs_len (b : Array UInt8) : (octs b).length = b.size := by simp [octs]
theorem octs_get {b : Array UInt8} {i : Nat} {d : D} (h : (b.toList.map fun c => D.int (c.toNat : Int))[i]? = some d) : ∃ y, (octs b)[i]? = some y ∧ d = .int y ∧ 0 ≤ y ∧ y < 256 := by
  rw [List.getElem?_map] at h
  cases hx : b.toList[i]? with
  | none => rw [hx] at h; cases h
  | some c =>
    rw [hx] at h; cases h
    refine ⟨(c.toNat : Int), by unfold octs; rw [List.getElem?_map, hx]; rfl, rfl, by omega, by have := c.toNat_lt; omega⟩
section
variable {prog : Program} {w : World} {mg mb : Str → Option Value}
theorem fn_a2b {b : Array UInt8} (hz : b.size ≤ 10000) (h1 : (aRun (octs b)).q ≠ 1) (h2 : (aRun (octs b)).q ≠ 0 → 4 ≤ (aRun (octs b)).q + (aRun (octs b)).p) : Fn prog w (KK3 w) mg mb 5 90 [.bytes b] [("strict_mode", .bool false)] (.bytes (byteArr (aRun (octs b)).o)) := by
  refine ⟨fun A s vs kvs R hf G r hk rk k => ?_⟩
  obtain ⟨v, rfl, rv⟩ := r.inv1
  obtain ⟨v', rfl, rv'⟩ := kv1 hk rk
  refine enter_plain (vars := [("strict_mode", (true, .bool false)), ("data", (true, .bytes b))]) hf G (by rfl) (by rfl) (fun S => by rfl) (by rfl) (by exact .cons rv' (.cons rv .nil)) ?_
  intro L s₁ F
  refine ex_assign F (ev_fn (G.stays F.keep) (hf.deeper.le (by decide)) fn_ascii_buffer (by kwd_rel)) fun s₁ F => ?_
  refine ex_assign F (ev_fn (G.stays F.keep) (hf.deeper.le (by decide)) fn_truth (by kwd_rel)) fun s₁ F => ?_
  refine ex_own F (by rfl) fun s₁ F => ?_
  refine ex_assign F ev_int fun s₁ F => ?_
  refine ex_assign F ev_int fun s₁ F => ?_
  refine ex_assign F ev_int fun s₁ F => ?_
  refine ex_assign F ev_int fun s₁ F => ?_
  let V (st : AS) (n : Int) : Vars := [("pads", (true, .int st.p)), ("leftchar", (true, .int st.l)), ("quad_pos", (true, .int st.q)), ("i", (true, .int n)), ("strict_mode", (true, .bool false))]
  refine ex_for (fl := true) (fun i vars own => (∃ n, vars = V (aRun ((octs b).take i)) n) ∧ own = some (("out" : Str), .lst ((aRun ((octs b).take i)).o.map D.int))) (fun d => [("this_ch", d)]) (F.sub (vars' := V ⟨[], 0, 0, 0⟩ 0) (.cons rfl (.cons rfl (.cons rfl (.cons rfl (.cons rfl .nil)))))) hf.hh
    (sr_bytes (b := b) hf.hh (by ktr_rel)) (.inr rfl) (fun _ => rfl) trivial (fun d _ => .name _ _ _) ?_ ⟨⟨0, rfl⟩, rfl⟩ ?_ ?_
  · rintro i vars' own' ⟨⟨n, rfl⟩, rfl⟩ d _
    rfl
  · rintro i d g s₂ vars' own' hd ug ⟨⟨n, rfl⟩, rfl⟩ F
    obtain ⟨y, hy, rfl, hy0, hy1⟩ := octs_get hd
    have hG := fun {s' : Shared} (k : g.heap.StaysIn s'.heap) => G.stays (stays_trans ug.2 k)
    have ok := aRun_ok ((octs b).take i) aStart
    have hnext : aRun ((octs b).take (i + 1)) = aStep (aRun ((octs b).take i)) y := by
      unfold aRun; rw [List.take_add_one, hy, Option.toList_some, List.foldl_append]; rfl
    rw [hnext]
    have ok' : AOk (0 + ((octs b).take i).length) (aRun ((octs b).take i)) := ok
    have hln : ((octs b).take i).length ≤ 10000 := by rw [List.length_take, octs_len]; omega
    generalize aRun ((octs b).take i) = st at F ok' ⊢
    have hq := ok'.q; have hle := ok'.len
    have hz1 : (st.o.map D.int).length ≤ sizeLine := by rw [List.length_map, sizeLine_eq]; omega
    have hv0 := b64v_nonneg y
    have go : ∀ {en : Env} {s₃ : Shared} {vs : Vars} {st' : AS} {m : Int}, FS en g s₃ vs (some (("out" : Str), .lst (st'.o.map .int))) → SubV vs (V st' m) → aStep st y = st' → Goes en g (fun vars own => (∃ n, vars = V (aStep st y) n) ∧ own = some (("out" : Str), .lst ((aStep st y).o.map .int))) s₃ := by
      intro en s₃ vs st' m F' sv e
      rw [e]
      exact ⟨g, _, _, .refl _, ⟨⟨m, rfl⟩, rfl⟩, F'.sub sv⟩
    have s5 : ∀ {vs : Vars} {p q l n : Int}, vs.lookup ("pads" : Str) = some (true, .int p) → vs.lookup ("leftchar" : Str) = some (true, .int l) → vs.lookup ("quad_pos" : Str) = some (true, .int q) → vs.lookup ("i" : Str) = some (true, .int n) → vs.lookup ("strict_mode" : Str) = some (true, .bool false) → ∀ o, SubV vs (V ⟨o, q, l, p⟩ n) := fun a b c d e o => .cons a (.cons b (.cons c (.cons d (.cons e .nil))))
    refine ex_if F (by ktr_unf) (fun s₃ F e => ?_) (fun s₃ F e1 => ex_nil ?_)
    · have hy61 : y = 61 := by simpa using e
      have he : aStep st y = { st with p := st.p + 1 } := by unfold aStep; rw [if_pos hy61]
      refine ex_assign F (by ktr_rel) fun s₄ F => ?_
      refine ex_if F (tr_and (by ktr_unf) fun _ => tr_and1 (by ktr_unf)) (fun s₅ F e => ?_) (fun s₅ F e => ex_nil ?_)
      · refine ex_assign F (by ktr_rel) fun s₆ F => ex_continue ?_
        exact go (st' := ⟨st.o, st.q, st.l, st.p + 1⟩) F (s5 rfl rfl rfl rfl rfl _) he
      · refine ex_if F (tr_not (tr_val (by ktr_rel) truth_bool)) (fun s₅ F e => ?_) (fun s₅ F e => by cases e)
        refine ex_assign F (by ktr_rel) fun s₆ F => ex_continue ?_
        exact go (st' := ⟨st.o, st.q, st.l, st.p + 1⟩) F (s5 rfl rfl rfl rfl rfl _) he
    have hy61 : ¬ y = 61 := by simpa using e1
    refine ex_assign F (ev_fn (hG F.keep) (hf.deeper.le (by decide)) fn_b64_value (by kwd_rel)) fun s₄ F => ?_
    refine ex_if F (by ktr_unf) (fun s₅ F e => ?_) (fun s₅ F e2 => ex_nil ?_)
    · have h64 : 64 ≤ b64v y := by simpa using e
      refine ex_if F (tr_val (by ktr_rel) truth_bool) (fun s₅ F e => by cases e) (fun s₅ F e => ex_nil ?_)
      refine ex_assign F (by ktr_rel) fun s₆ F => ex_continue ?_
      exact go (st' := ⟨st.o, st.q, st.l, st.p⟩) F (s5 rfl rfl rfl rfl rfl _) (by unfold aStep; rw [if_neg hy61, if_pos h64])
    have h64 : ¬ 64 ≤ b64v y := by simpa using e2
    refine ex_if F (tr_and (tr_val (by ktr_rel) truth_int) fun _ => tr_and1 (tr_val (by ktr_rel) truth_bool)) (fun s₅ F e => by simp at e) (fun s₅ F e => ex_nil ?_)
    refine ex_assign F ev_int fun s₆ F => ?_
    refine ex_if F (by ktr_unf) (fun s₅ F e => ?_) (fun s₅ F e3 => ?_)
    · have h0 : st.q = 0 := by simpa using e
      refine ex_assign F ev_int fun s₆ F => ?_
      refine ex_assign F (by ktr_rel) fun s₆ F => ex_nil ?_
      refine ex_assign F (by ktr_rel) fun s₆ F => ex_nil ?_
      exact go (st' := ⟨st.o, 1, b64v y, 0⟩) F (s5 rfl rfl rfl rfl rfl _) (by unfold aStep; rw [if_neg hy61, if_neg h64, if_pos h0])
    have h0 : ¬ st.q = 0 := by simpa using e3
    refine ex_if F (by ktr_unf) (fun s₅ F e => ?_) (fun s₅ F e4 => ?_)
    · have h1 : st.q = 1 := by simpa using e
      refine ex_assign F ev_int fun s₆ F => ?_
      refine ex_append (d := .int (st.l * 4 + b64v y / 16)) F (evb_flat (ev_binop (ev_binop (by ktr_rel) ev_int (op_shl2 (by omega) (by omega))) (ev_binop (by ktr_rel) ev_int op_shr4) (op_or2 (by omega) (by omega) (by omega)))) hz1 fun s₆ F => ?_
      refine ex_assign F (ev_binop (by ktr_rel) ev_int (op_and15 hv0)) fun s₆ F => ex_nil (ex_nil ?_)
      refine ex_assign F (by ktr_rel) fun s₆ F => ex_nil ?_
      refine go (st' := ⟨st.o ++ [st.l * 4 + b64v y / 16], 2, b64v y % 16, 0⟩) (by simpa using F) (s5 rfl rfl rfl rfl rfl _) (by unfold aStep; rw [if_neg hy61, if_neg h64, if_neg h0, if_pos h1])
    have h1 : ¬ st.q = 1 := by simpa using e4
    refine ex_if F (by ktr_unf) (fun s₅ F e => ?_) (fun s₅ F e5 => ?_)
    · have h2 : st.q = 2 := by simpa using e
      refine ex_assign F ev_int fun s₆ F => ?_
      refine ex_append (d := .int (st.l * 16 + b64v y / 4)) F (evb_flat (ev_binop (ev_binop (by ktr_rel) ev_int (op_shl4 (by omega) (by omega))) (ev_binop (by ktr_rel) ev_int op_shr2) (op_or4 (by omega) (by omega) (by omega)))) hz1 fun s₆ F => ?_
      refine ex_assign F (ev_binop (by ktr_rel) ev_int (op_and3 hv0)) fun s₆ F => ex_nil (ex_nil (ex_nil ?_))
      refine ex_assign F (by ktr_rel) fun s₆ F => ex_nil ?_
      refine go (st' := ⟨st.o ++ [st.l * 16 + b64v y / 4], 3, b64v y % 4, 0⟩) (by simpa using F) (s5 rfl rfl rfl rfl rfl _) (by unfold aStep; rw [if_neg hy61, if_neg h64, if_neg h0, if_neg h1, if_pos h2])
    have h2 : ¬ st.q = 2 := by simpa using e5
    refine ex_assign F ev_int fun s₆ F => ?_
    refine ex_append (d := .int (st.l * 64 + b64v y)) F (evb_flat (ev_binop (ev_binop (by ktr_rel) ev_int (op_shl6 (by omega) (by omega))) (by ktr_rel) (op_or6 (by omega) (by omega) (by omega)))) hz1 fun s₆ F => ?_
    refine ex_assign F ev_int fun s₆ F => ex_nil (ex_nil (ex_nil ?_))
    refine ex_assign F (by ktr_rel) fun s₆ F => ex_nil ?_
    refine go (st' := ⟨st.o ++ [st.l * 64 + b64v y], 0, 0, 0⟩) (by simpa using F) (s5 rfl rfl rfl rfl rfl _) (by unfold aStep; rw [if_neg hy61, if_neg h64, if_neg h0, if_neg h1, if_neg h2])
  · rintro g s₂ vars' own' ug ⟨⟨n, rfl⟩, rfl⟩ F
    have htk : (octs b).take (b.toList.map fun c => D.int (c.toNat : Int)).length = octs b := List.take_of_length_le (by rw [octs_len]; simp)
    rw [htk] at F
    have ok : AOk (0 + (octs b).length) (aRun (octs b)) := aRun_ok (octs b) aStart
    rw [octs_len] at ok
    generalize aRun (octs b) = st at F ok h1 h2 k
    have hle := ok.len
    have hG := fun {s' : Shared} (k : g.heap.StaysIn s'.heap) => G.stays (stays_trans ug.2 k)
    refine ex_if F (by ktr_unf) (fun s₃ F e => absurd (by simpa using e) h1) (fun s₃ F e => ex_nil ?_)
    refine ex_if F (tr_and (by ktr_unf) fun _ => tr_and1 (by ktr_unf)) (fun s₃ F e => ?_) (fun s₃ F e => ex_nil ?_)
    · have h3 : st.q ≠ 0 ∧ st.q + st.p < 4 := by simpa using e
      have := h2 h3.1
      omega
    · exact ex_return (d := .bytes (byteArr st.o)) F (ev_call (nm_boot (hG F.keep) (by rfl) Boot.bytes) (.type _) (evl_cons (ev_own F) evl_nil) (call_bytes_ints hf.hh ok.bytes (by rw [sizeLine_eq]; omega))) fun v s' F r => k _ _ (F.keepsUp ug) r
end

theorem b2a_len (bs : List Int) : (b2a bs).length ≤ 2 * bs.length + 3 := by
  have h := (fold_ok bs start_ok).len
  unfold b2a fin
  split
  · rw [List.length_append]; simp; omega
  split
  · rw [List.length_append]; simp; omega
  · omega
theorem byteArr_size (ns : List Int) : (byteArr ns).size = ns.length := by simp [byteArr]
noncomputable def encA (alt b : Array UInt8) : Array UInt8 := trans (mkTab #[43, 47] alt) (byteArr (b2a (octs b)))
noncomputable def decA (alt b : Array UInt8) : Array UInt8 := trans (mkTab alt #[43, 47]) b
theorem trans_size (t b : Array UInt8) : (trans t b).size = b.size := by simp [trans]
section
variable {prog : Program} {w : World} {mg mb : Str → Option Value}
theorem fn_b64encode {b alt : Array UInt8} (hz : b.size ≤ 1000) (ha : alt.size = 2) : Fn prog w (KK3 w) mg mb 8 106 [.bytes b, .bytes alt] [] (.bytes (encA alt b)) := by
  refine ⟨fun A s vs kvs R hf G r hk rk k => ?_⟩
  obtain ⟨v, u, rfl, rv, ru⟩ := r.inv2
  obtain rfl := kv0 hk
  refine enter_plain (vars := [("altchars", (true, .bytes alt)), ("s", (true, .bytes b))]) hf G (by rfl) (by rfl) (fun S => by rfl) (by rfl) (by exact .cons ru (.cons rv .nil)) ?_
  intro L s₁ F
  refine ex_assign F (ev_fnk (G.stays F.keep) (hf.deeper.le (by decide)) (fn_b2a (b := b) hz) (by kwd_rel) (evk_cons ev_bool evk_nil)) fun s₁ F => ?_
  refine ex_if F (tr_cmp (by ktr_rel) ev_none cmp_isnot_bytes_none) (fun s₁ F e => ?_) (fun s₁ F e => by cases e)
  refine ex_assert F (Tr.as (tr_cmp (ev_call (nm_boot (G.stays F.keep) (by rfl) Boot.len) (.builtin _) (by kwd_rel) (call_len_bytes (by rw [ha]; decide))) ev_int cmp_eq_int) (by rw [ha]; rfl)) fun s₂ F => ?_
  have hsz : (byteArr (b2a (octs b))).size ≤ sizeLine := by have := b2a_len (octs b); rw [byteArr_size, sizeLine_eq]; rw [octs_len] at this; omega
  exact ex_return (d := .bytes (encA alt b)) F (ev_meth (by ktr_rel) meth_translate (evl_cons (ev_tymeth (G.stays F.keep) (nm_boot (G.stays F.keep) (by rfl) Boot.bytes) typeOf_bytes stub_bytes find_maketrans handed_mt (by kwd_rel) (call_maketrans (f := #[43, 47]) (t := alt) (by rw [ha]; rfl))) evl_nil)
    (call_translate (mkTab_size _ _) hsz)) fun v s' F r => k _ _ F.keeps r
theorem fn_b64decode {x : Str} {alt : Array UInt8} (hx : ∀ c ∈ x.cps.toList, c < 128) (hz : x.length ≤ 10000) (ha : alt.size = 2) (h1 : (aRun (octs (decA alt (asBytes x)))).q ≠ 1)
    (h2 : (aRun (octs (decA alt (asBytes x)))).q ≠ 0 → 4 ≤ (aRun (octs (decA alt (asBytes x)))).q + (aRun (octs (decA alt (asBytes x)))).p) : Fn prog w (KK3 w) mg mb 8 114 [.str x, .bytes alt] [] (.bytes (byteArr (aRun (octs (decA alt (asBytes x)))).o)) := by
  refine ⟨fun A s vs kvs R hf G r hk rk k => ?_⟩
  obtain ⟨v, u, rfl, rv, ru⟩ := r.inv2
  obtain rfl := kv0 hk
  refine enter_plain (vars := [("validate", (true, .bool false)), ("altchars", (true, .bytes alt)), ("s", (true, .str x))]) hf G (by rfl) (by rfl) (fun S => by rfl) (by rfl) (by exact .cons (.bool _) (.cons ru (.cons rv .nil))) ?_
  intro L s₁ F
  have hbs : (asBytes x).size = x.length := by unfold asBytes; rw [Array.size_map]; rfl
  refine ex_assign F (ev_fn (G.stays F.keep) (hf.deeper.le (by decide)) (fn_bfdd_str hx hz) (by kwd_rel)) fun s₁ F => ?_
  refine ex_if F (tr_cmp (by ktr_rel) ev_none cmp_isnot_bytes_none) (fun s₁ F e => ?_) (fun s₁ F e => by cases e)
  refine ex_assign F (ev_fn (G.stays F.keep) (hf.deeper.le (by decide)) fn_bfdd_bytes (by kwd_rel)) fun s₁ F => ?_
  refine ex_assert F (Tr.as (tr_cmp (ev_call (nm_boot (G.stays F.keep) (by rfl) Boot.len) (.builtin _) (by kwd_rel) (call_len_bytes (by rw [ha]; decide))) ev_int cmp_eq_int) (by rw [ha]; rfl)) fun s₂ F => ?_
  refine ex_assign (d := .bytes (decA alt (asBytes x))) F (ev_meth (by ktr_rel) meth_translate (evl_cons (ev_tymeth (G.stays F.keep) (nm_boot (G.stays F.keep) (by rfl) Boot.bytes) typeOf_bytes stub_bytes find_maketrans handed_mt (by kwd_rel) (call_maketrans (f := alt) (t := #[43, 47]) (by rw [ha]; rfl))) evl_nil)
    (call_translate (mkTab_size _ _) (by rw [hbs, sizeLine_eq]; omega))) fun s₁ F => ex_nil ?_
  exact ex_return F (ev_fnk (G.stays F.keep) (hf.deeper.le (by decide)) (fn_a2b (b := decA alt (asBytes x)) (by unfold decA; rw [trans_size, hbs]; exact hz) h1 h2) (by kwd_rel) (evk_cons (by ktr_rel) evk_nil)) fun v s' F r => k _ _ F.keeps r
end

theorem kqElt_err {t : Str} {X : String} (h : kqElt t = .inl X) : X = "ValueError" ∨ X = "IndexError" := by
  unfold kqElt at h
  split at h
  · split at h
    · cases h; exact .inr rfl
    · split at h <;> cases h
  · cases h; exact .inl rfl
theorem kqGo_err : ∀ {items : List Str} {ps : List (Str × Str)} {X : String}, kqGo items ps = .inl X → X = "ValueError" ∨ X = "IndexError"
  | [], ps, X, h => by cases h
  | t :: r, ps, X, h => by
    unfold kqGo at h
    split at h
    · cases h; rename_i he; exact kqElt_err he
    · exact kqGo_err h
section
variable {prog : Program} {w : World} {mg mb : Str → Option Value}
theorem caught {A : Around} {env : Env} {s s1 : Shared} {g : Heap} {outer : List Env} {e : Addr} {X : String} {a0 : Value} {Q : Flow → Shared → Prop} {E E₁ : Value → Shared → Prop} {p1 p2 p3 p4 p5 p6 : Pos} {q1 q2 : Pos} {k1 k2 : Nat} (hX : X = "ValueError" ∨ X = "IndexError") (G : Gr (KK3 w) mg mb g)
    (hfr : A.frames = some (env :: outer)) (hf : env.frame = some env.locals) (hfl : Heap.FlyingW g (env :: outer) e (.type X) a0 s1.heap) (hup : s.heap.UpToSlots s1.heap) (hs : ∃ h tk, s1 = { s with heap := h, toks := tk })
    (n1 : NameIs prog w (A.mark (some (.ref e))) env g "ValueError" (.type "ValueError")) (n2 : NameIs prog w (A.mark (some (.ref e))) env g "IndexError" (.type "IndexError"))
    (k : ∀ t s', (∃ h tk, s' = { s with heap := h, toks := tk }) → g.StaysIn s'.heap → s.heap.UpToSlots s'.heap → Q (.ret (.str (Str.ofString X) t)) s') :
    wpAny (model prog w) A (noteFrame (.ref e) env) (fun _ s₂ => wpAny (model prog w) A (setFlight (.ref e) none) (fun _ s₃ => wpAny (model prog w) A
      (handleBy (.ref e) env [.ExceptHandler (some (.Name "ValueError" p1)) none [.Return (some (.Constant (.str "ValueError") k1 q1)) p2] p3, .ExceptHandler (some (.Name "IndexError" p4)) none [.Return (some (.Constant (.str "IndexError") k2 q2)) p5] p6]) Q E s₃) E₁ s₂) E₁ s1 := by
  have hexc1 : isSubtype (.type "ValueError") (.type "BaseException") = pure true := isSubtype_of_subB (by decide +kernel)
  have hnt1 : isSubtype (.type ((Manifest.find? "ValueError").elim "type" fun x => x.metatype)) (.type "tuple") = pure false := isSubtype_of_subB (by decide +kernel)
  have hexc2 : isSubtype (.type "IndexError") (.type "BaseException") = pure true := isSubtype_of_subB (by decide +kernel)
  have hnt2 : isSubtype (.type ((Manifest.find? "IndexError").elim "type" fun x => x.metatype)) (.type "tuple") = pure false := isSubtype_of_subB (by decide +kernel)
  refine wpAny_looks_onW hfr hf hfl fun h1 hheld u1 => wpAny_landsW hheld fun h2 hfl2 u2 => ?_
  have fin : ∀ (s2 : Shared) (x : Str) (kk : Nat) (q p : Pos) (E' : Value → Shared → Prop), x = Str.ofString X → (∃ h tk, s2 = { s with heap := h, toks := tk }) → Heap.FlyingW g (env :: outer) e (.type X) a0 s2.heap → s.heap.UpToSlots s2.heap →
      wpAny (model prog w) (A.mark (some (.ref e))) (setFlight (.ref e) none) (fun _ s₃ => wpAny (model prog w) (A.mark (some (.ref e))) (execs [.Return (some (.Constant (.str x) kk q)) p] env) Q E' s₃) E' s2 := by
    rintro s2 x kk q p E' rfl ⟨h, tk, rfl⟩ hfl3 u3
    refine lands_againW hfl3 fun h4 hfl4 u4 => wpAny_execs_cons (wpAny_Return_some (ev_str.run (h := h4) _ _ _ (stays_refl _) fun v s' kp r => ?_))
    cases r with
    | str _ t =>
    obtain ⟨h5, tk5, rfl, st5⟩ := kp
    exact k t _ ⟨_, _, rfl⟩ (stays_trans hfl4.1 st5) ((u3.trans u4).trans (Heap.UpToSlots.of_keeps st5))
  obtain ⟨h0, t0, rfl⟩ := hs
  have hst2 : g.StaysIn h2 := hfl2.1
  obtain ⟨ob, hob, hobc⟩ := hfl2.there
  have u12 : s.heap.UpToSlots h2 := (hup.trans u1).trans u2
  rcases hX with rfl | rfl
  · refine wpAny_handleBy_builtin (X := "ValueError") (T := "ValueError") (b := true) hexc1 hnt1 (isSubtype_of_subB (by decide +kernel)) (n1.run _ _ _ _ hst2 ⟨rfl, ⟨ob, hob, hobc⟩, ?_⟩)
    rw [if_pos rfl]
    exact fin _ _ _ _ _ _ rfl ⟨_, _, rfl⟩ hfl2 u12
  · refine wpAny_handleBy_builtin (X := "IndexError") (T := "ValueError") (b := false) hexc1 hnt1 (isSubtype_of_subB (by decide +kernel)) (n1.run _ _ _ _ hst2 ⟨rfl, ⟨ob, hob, hobc⟩, ?_⟩)
    rw [if_neg (by decide)]
    refine wpAny_handleBy_builtin (X := "IndexError") (T := "IndexError") (b := true) hexc2 hnt2 (isSubtype_of_subB (by decide +kernel)) (n2.run _ _ _ _ hst2 ⟨rfl, ⟨ob, hob, hobc⟩, ?_⟩)
    rw [if_pos rfl]
    exact fin _ _ _ _ _ _ rfl ⟨_, _, rfl⟩ hfl2 u12
theorem kqGo_len : ∀ {items : List Str} {ps ps' : List (Str × Str)}, kqGo items ps = .inr ps' → ps'.length ≤ ps.length + items.length
  | [], ps, ps', h => by cases h; simp
  | t :: r, ps, ps', h => by
    unfold kqGo at h
    split at h
    · cases h
    · rename_i p _
      have := kqGo_len h
      have := dput_len ps p.1 p.2
      simp; omega
theorem FS.frames {env : Env} {b s : Shared} {vars : Vars} {own : Own} {g : Heap} {outer : List Env} (F : FS env b s vars own) (hk : env.scope.kind = .function) (hf : env.frame = some env.locals) (hLg : g.get? env.locals = none) (hFF : s.heap.FunFrames g outer) :
    s.heap.FunFrames g (env :: outer) := by
  obtain ⟨m, hm⟩ := F.locs
  exact Heap.FunFrames.cons (by rw [hk]; decide) hf hm hLg hFF
end

noncomputable def tabA : List Int := [0, 1, 2, 0, 1, 63, 62, 9]
noncomputable def tabB : List Int := [62, 62, 62, 63, 5, 62]
noncomputable def tabC : List Int := [63, 63, 62, 7, 63, 62]
/-- the figures that a number gives -/
noncomputable def drawn (n : Int) : List Int := [tabA.getD (n % 8).toNat 0, tabB.getD (n / 8 % 6).toNat 0, n / 48 % 64, tabC.getD (n / 3072 % 6).toNat 0]
theorem tab_get {tab : List Int} {m x : Int} (h0 : 0 < m) (hl : (tab.length : Int) = m) : (tab.map D.int)[(x % m).toNat]? = some (.int (tab.getD (x % m).toNat 0)) := by
  have h1 := Int.emod_nonneg x (Int.ne_of_gt h0)
  have h2 := Int.emod_lt_of_pos x h0
  rw [List.getElem?_map, List.getD_eq_getElem?_getD, List.getElem?_eq_getElem (by omega)]
  rfl
section
variable {prog : Program} {w : World} {mg mb : Str → Option Value}
theorem fn_drawn {n : Int} : FnF prog w (KK3 w) mg mb 3 121 [.int n] [] (.lst ((drawn n).map .int)) := by
  refine ⟨fun A s vs kvs R hf G r hk rk k => ?_⟩
  obtain ⟨v, rfl, rv⟩ := r.inv1
  cases kvs with
  | cons _ _ => cases hk
  | nil =>
  refine enter_cells (vars := [("number", (true, .int n))]) hf G (by rfl) (by rfl) (by rfl) (fun L => by rfl) (by exact .cons rv .nil) ?_
  intro L s₁ F
  have lt62 : ∀ {x m : Int}, 0 < m → m < 2 ^ 62 → x % m < 2 ^ 62 := fun h h' => Int.lt_trans (Int.emod_lt_of_pos _ h) h'
  refine ex_assign (d := .int (tabA.getD (n % 8).toNat 0)) F (ev_item (d1 := .tup (tabA.map .int)) (ev_tuple (by kwd_rel) (by decide)) (ev_binop (by ktr_rel) ev_int (op_modp (by decide))) (op_item_tup (Int.emod_nonneg _ (by decide)) (lt62 (by decide) (by decide)) (tab_get (by decide) (by decide)))) fun s₂ F => ?_
  exact ex_returnF F (.refl _) (evn_list (evln_cons (evn_flat (by ktr_rel)) (evln_cons (evn_flat (ev_item (d1 := .tup (tabB.map .int)) (ev_tuple (by kwd_rel) (by decide)) (ev_binop (d1 := .int (n / 8)) (ev_binop (by ktr_rel) ev_int (op_divp (by decide) (by decide))) ev_int (op_modp (by decide))) (op_item_tup (Int.emod_nonneg _ (by decide)) (lt62 (by decide) (by decide)) (tab_get (by decide) (by decide)))))
    (evln_cons (evn_flat (ev_binop (d1 := .int (n / 48)) (ev_binop (by ktr_rel) ev_int (op_divp (by decide) (by decide))) ev_int (op_modp (by decide))))
    (evln_cons (evn_flat (ev_item (d1 := .tup (tabC.map .int)) (ev_tuple (by kwd_rel) (by decide)) (ev_binop (d1 := .int (n / 3072)) (ev_binop (by ktr_rel) ev_int (op_divp (by decide) (by decide))) ev_int (op_modp (by decide))) (op_item_tup (Int.emod_nonneg _ (by decide)) (lt62 (by decide) (by decide)) (tab_get (by decide) (by decide)))))
    evln_nil)))) (by show 4 ≤ sizeLine; decide)) k
end

noncomputable def val64 (fs : List Int) : Int := fs.foldl (fun v f => v * 64 + f) 0
/-- the octets that figures of six bits make -/
noncomputable def octP (fs : List Int) : List Int := ((List.range (fs.length * 3 / 4)).map fun k => val64 fs / 256 ^ k % 256).reverse
theorem octP_byte (fs : List Int) : ∀ x ∈ octP fs, 0 ≤ x ∧ x < 256 := fun x hx => by
  unfold octP at hx
  rw [List.mem_reverse, List.mem_map] at hx
  obtain ⟨k, _, rfl⟩ := hx
  exact ⟨Int.emod_nonneg _ (by decide), Int.emod_lt_of_pos _ (by decide)⟩
theorem octP_len (fs : List Int) : (octP fs).length = fs.length * 3 / 4 := by unfold octP; simp
section
variable {prog : Program} {w : World} {mg mb : Str → Option Value}
theorem fn_octets {fs : List Int} (hl : fs.length ≤ 1000) : Fn prog w (KK3 w) mg mb 3 126 [.lst (fs.map .int)] [] (.bytes (byteArr (octP fs))) := by
  refine ⟨fun A s vs kvs R hf G r hk rk k => ?_⟩
  obtain ⟨v, rfl, rv⟩ := r.inv1
  cases kvs with
  | cons _ _ => cases hk
  | nil =>
  refine enter_cells (vars := [("figures", (true, .lst (fs.map .int)))]) hf G (by rfl) (by rfl) (by rfl) (fun L => by rfl) (by exact .cons rv .nil) ?_
  intro L s₁ F
  refine ex_assign F ev_int fun s₁ F => ?_
  let V (i : Nat) : Vars := [("value", (true, .int (val64 (fs.take i)))), ("figures", (true, .lst (fs.map .int)))]
  refine ex_for (fl := true) (fun i vars own => vars = V i ∧ own = none) (fun d => [("figure", d)]) (F.sub (vars' := V 0) (.cons rfl (.cons rfl .nil))) hf.hh
    (sr_list (ds := fs.map .int) hf.hh (by ktr_rel)) (.inl rfl) (fun _ => rfl) trivial (fun d _ => .name _ _ _) ?_ ⟨rfl, rfl⟩ ?_ ?_
  · rintro i vars' own' ⟨rfl, rfl⟩ d _
    rfl
  · rintro i d g s₂ vars' own' hd ug ⟨rfl, rfl⟩ F
    rw [List.getElem?_map] at hd
    cases hx : fs[i]? with
    | none => rw [hx] at hd; cases hd
    | some o =>
    rw [hx] at hd; cases hd
    refine ex_assign F (ev_binop (ev_binop (by ktr_rel) ev_int (op_mul_int (mulOk_right (by decide)))) (by ktr_rel) op_add_int) fun s₃ F => ex_nil ⟨g, _, _, .refl _, ⟨rfl, rfl⟩, ?_⟩
    have : val64 (fs.take (i + 1)) = val64 (fs.take i) * 64 + o := by
      rw [List.take_add_one, hx, Option.toList_some]; unfold val64; rw [List.foldl_append]; rfl
    show FS _ g s₃ (V (i + 1)) none
    simp only [V]
    rw [this]
    exact F.sub (.cons rfl (.cons rfl .nil))
  · rintro g s₂ vars' own' ug ⟨rfl, rfl⟩ F
    have hG := fun {s' : Shared} (k : g.heap.StaysIn s'.heap) => G.stays (stays_trans ug.2 k)
    have hV : V (fs.map D.int).length = ([("value", (true, .int (val64 fs))), ("figures", (true, .lst (fs.map .int)))] : Vars) := by
      simp only [V]; rw [List.length_map, List.take_length]
    rw [hV] at F
    have hn : ((fs.map D.int).length : Int) * 3 / 4 = ((fs.length * 3 / 4 : Nat) : Int) := by rw [List.length_map]; omega
    refine ex_return (d := .bytes (byteArr (octP fs))) F (ev_call (nm_boot (hG F.keep) (by rfl) Boot.bytes) (.type _) (evl_cons (Ev.as (d' := .lst ((octP fs).map D.int)) (EvFL.ev (evfl_rev (ds := ((List.range (fs.length * 3 / 4)).map fun k => D.int (val64 fs / 256 ^ k % 256))) (EvFL.ev (EvFL.as (evfl_comp (fl := true) (ds := (List.range ((fs.length * 3 / 4 : Nat) : Int).toNat).map fun (i : Nat) => D.int (i : Int)) (fun d => [("k", d)]) (fun d => match d with | .int k => some (.int (val64 fs / 256 ^ k.toNat % 256)) | _ => none) F.vs hf.hh
      (Sr.c (st := none) (by exact sr_range hf.hh (nm_boot (hG F.keep) (by rfl) Boot.range) (Ev.as (ev_binop (ev_binop (ev_call (nm_boot (hG F.keep) (by rfl) Boot.len) (.builtin _) (by kwd_rel) (call_len_lst (by rw [List.length_map, sizeLine_eq]; omega))) ev_int (op_mul_int (mulOk_right (by decide)))) ev_int (op_divp (by decide) (by decide))) (by rw [hn])) (by omega) (by omega)))
      (fun _ => rfl) trivial (fun d _ => .name _ _ _) (fun d _ => loc1 (P := True) rfl) (by rw [List.length_map, List.length_range, sizeLine_eq]; omega) ?_) ?_)) (by exact ev_neg ev_int) (by rw [List.length_map, List.length_range, sizeLine_eq]; omega))) ?_) evl_nil) (call_bytes_ints hf.hh (octP_byte fs) (by rw [octP_len, sizeLine_eq]; omega))) fun v s' F r => k _ _ (F.keepsUp ug) r
    · intro C a0 b s' outs d hd hb F'
      simp only [List.mem_map, List.mem_range] at hd
      obtain ⟨i, hi, rfl⟩ := hd
      refine ⟨ts_nil, fun d' e => ?_⟩
      cases e
      have hi' : i ≤ 1000 := by omega
      exact evn_flat (ev_binop (d1 := .int (val64 fs / 256 ^ i)) (ev_binop (d1 := .int (val64 fs)) (by ktr_rel) (ev_binop ev_int (by ktr_rel) (op_pow_int (by decide) (by omega) (pow_bits (b := 256) (k := i) (by decide) hi'))) (op_divp (Int.pow_pos (by decide)) (pow_log (b := 256) (k := i) (by decide) (by decide) hi'))) ev_int (op_modp (by decide)))
    · rw [Int.toNat_natCast, List.filterMap_map]
      rw [← List.filterMap_eq_map]
      rfl
    · unfold octP
      rw [List.map_reverse, List.map_map]; rfl
end

noncomputable def cnt6 (n : Nat) : Nat := (n * 4 + 2) / 3
/-- the figures that a row is shown as -/
noncomputable def shownP (row : List Int) (eq : Int) : List Int :=
  ((List.range (cnt6 row.length)).map fun k => rowVal row * 2 ^ (cnt6 row.length * 6 - row.length * 8) / 64 ^ k % 64).reverse ++ List.replicate (-(row.length : Int) % 3).toNat eq
section
variable {prog : Program} {w : World} {mg mb : Str → Option Value}
theorem fn_shown {b : Array UInt8} {eq : Int} (hl : b.size ≤ 100) : FnF prog w (KK3 w) mg mb 3 131 [.bytes b, .int eq] [] (.lst ((shownP (octs b) eq).map .int)) := by
  refine ⟨fun A s vs kvs R hf G r hk rk k => ?_⟩
  obtain ⟨v, u, rfl, rv, ru⟩ := r.inv2
  cases kvs with
  | cons _ _ => cases hk
  | nil =>
  refine enter_cells (vars := [("equals", (true, .int eq)), ("row", (true, .bytes b))]) hf G (by rfl) (by rfl) (by rfl) (fun L => by rfl) (by exact .cons ru (.cons rv .nil)) ?_
  intro L s₁ F
  have hlen : (octs b).length = b.size := octs_len b
  refine ex_assign (d := .int (cnt6 b.size : Nat)) F (Ev.as (ev_binop (ev_binop (ev_binop (ev_call (nm_boot (G.stays F.keep) (by rfl) Boot.len) (.builtin _) (by kwd_rel) (call_len_bytes (by rw [sizeLine_eq]; omega))) ev_int (op_mul_int (mulOk_right (by decide)))) ev_int op_add_int) ev_int (op_divp (by decide) (by decide))) (by unfold cnt6; congr 1)) fun s₁ F => ?_
  refine ex_assign F ev_int fun s₁ F => ?_
  let V (i : Nat) : Vars := [("value", (true, .int (rowVal ((octs b).take i)))), ("count", (true, .int (cnt6 b.size : Nat))), ("equals", (true, .int eq)), ("row", (true, .bytes b))]
  refine ex_for (fl := true) (fun i vars own => vars = V i ∧ own = none) (fun d => [("octet", d)]) (F.sub (vars' := V 0) (.cons rfl (.cons rfl (.cons rfl (.cons rfl .nil))))) hf.hh
    (sr_bytes (st := none) hf.hh (by ktr_rel)) (.inl rfl) (fun _ => rfl) trivial (fun d _ => .name _ _ _) ?_ ⟨rfl, rfl⟩ ?_ ?_
  · rintro i vars' own' ⟨rfl, rfl⟩ d _
    rfl
  · rintro i d g s₂ vars' own' hd ug ⟨rfl, rfl⟩ F
    rw [List.getElem?_map] at hd
    cases hx : b.toList[i]? with
    | none => rw [hx] at hd; cases hd
    | some o =>
    rw [hx] at hd; cases hd
    refine ex_assign F (ev_binop (ev_binop (by ktr_rel) ev_int (op_mul_int (mulOk_right (by decide)))) (by ktr_rel) op_add_int) fun s₃ F => ex_nil ⟨g, _, _, .refl _, ⟨rfl, rfl⟩, ?_⟩
    have : rowVal ((octs b).take (i + 1)) = rowVal ((octs b).take i) * 256 + (o.toNat : Int) := by
      have hx' : (octs b)[i]? = some (o.toNat : Int) := by unfold octs; rw [List.getElem?_map, hx]; rfl
      rw [List.take_add_one, hx', Option.toList_some]; unfold rowVal; rw [List.foldl_append]; rfl
    show FS _ g s₃ (V (i + 1)) none
    simp only [V]
    rw [this]
    exact F.sub (.cons rfl (.cons rfl (.cons rfl (.cons rfl .nil))))
  · rintro g s₂ vars' own' ug ⟨rfl, rfl⟩ F
    have hG := fun {s' : Shared} (k : g.heap.StaysIn s'.heap) => G.stays (stays_trans ug.2 k)
    have hV : V (b.toList.map fun c => D.int (c.toNat : Int)).length = ([("value", (true, .int (rowVal (octs b)))), ("count", (true, .int (cnt6 b.size : Nat))), ("equals", (true, .int eq)), ("row", (true, .bytes b))] : Vars) := by
      simp only [V]; rw [List.length_map, Array.length_toList, ← hlen, List.take_length]
    rw [hV] at F
    have hc : cnt6 b.size ≤ 200 := by unfold cnt6; omega
    have hp : (cnt6 b.size : Int) * 6 - (b.size : Int) * 8 = ((cnt6 b.size * 6 - b.size * 8 : Nat) : Int) ∧ cnt6 b.size * 6 - b.size * 8 ≤ 4 := by unfold cnt6; omega
    have hp4 : (2 : Int) ^ (cnt6 b.size * 6 - b.size * 8) ≤ 16 ∧ 0 < (2 : Int) ^ (cnt6 b.size * 6 - b.size * 8) := by
      rcases (by omega : cnt6 b.size * 6 - b.size * 8 = 0 ∨ cnt6 b.size * 6 - b.size * 8 = 1 ∨ cnt6 b.size * 6 - b.size * 8 = 2 ∨ cnt6 b.size * 6 - b.size * 8 = 3 ∨ cnt6 b.size * 6 - b.size * 8 = 4) with e | e | e | e | e <;> rw [e] <;> decide
    refine ex_aug (d := .int (rowVal (octs b) * 2 ^ (cnt6 b.size * 6 - b.size * 8))) F (by rfl) (Ev.as (d' := .int (2 ^ (cnt6 b.size * 6 - b.size * 8))) (ev_binop ev_int (Ev.as (ev_binop (ev_binop (d1 := .int (cnt6 b.size : Nat)) (by ktr_rel) ev_int (op_mul_int (mulOk_right (by decide))))
      (ev_binop (ev_call (nm_boot (hG F.keep) (by rfl) Boot.len) (.builtin _) (by kwd_rel) (call_len_bytes (by rw [sizeLine_eq]; omega))) ev_int (op_mul_int (mulOk_right (by decide)))) op_sub_int) (by rw [hp.1])) (op_pow_int (by decide) (by omega) (pow_bits (b := 2) (k := cnt6 b.size * 6 - b.size * 8) (by decide) (by omega)))) (by rw [Int.toNat_natCast]))
      (op_imul_int (mulOk_right (by omega))) fun s₃ F => ?_
    refine ex_returnF F ug (EvFL.evn (EvFL.as (evfl_add (xs := ((List.range (cnt6 b.size)).map fun k => D.int (rowVal (octs b) * 2 ^ (cnt6 b.size * 6 - b.size * 8) / 64 ^ k % 64)).reverse) (ys := (List.replicate (-(b.size : Int) % 3).toNat [D.int eq]).flatten) (EvFL.ev (evfl_rev (EvFL.ev (EvFL.as (evfl_comp (fl := true) (ds := (List.range ((cnt6 b.size : Nat) : Int).toNat).map fun (i : Nat) => D.int (i : Int)) (fun d => [("k", d)]) (fun d => match d with | .int k => some (.int (rowVal (octs b) * 2 ^ (cnt6 b.size * 6 - b.size * 8) / 64 ^ k.toNat % 64)) | _ => none) F.vs hf.hh
      (Sr.c (st := none) (by exact sr_range hf.hh (nm_boot (hG F.keep) (by rfl) Boot.range) (by ktr_rel) (by omega) (by omega)))
      (fun _ => rfl) trivial (fun d _ => .name _ _ _) (fun d _ => loc1 (P := True) rfl) (by rw [List.length_map, List.length_range, sizeLine_eq]; omega) ?_) ?_)) (by exact ev_neg ev_int) (by rw [List.length_map, List.length_range, sizeLine_eq]; omega)))
      (ev_binop (ev_list (by kwd_rel) (by show 1 ≤ sizeLine; decide)) (ev_binop (d1 := .int (-(b.size : Int))) (ev_neg (ev_call (nm_boot (hG F.keep) (by rfl) Boot.len) (.builtin _) (by kwd_rel) (call_len_bytes (by rw [sizeLine_eq]; omega)))) ev_int (op_modp (by decide))) (op_mul_list (ds := [D.int eq]) (by simp) (by omega) (by omega) (by simp; omega))) ?_) ?_) ?_) k
    · intro C a0 b' s' outs d hd hb F'
      simp only [List.mem_map, List.mem_range] at hd
      obtain ⟨i, hi, rfl⟩ := hd
      refine ⟨ts_nil, fun d' e => ?_⟩
      cases e
      have hi' : i ≤ 1000 := by omega
      exact evn_flat (ev_binop (d1 := .int (rowVal (octs b) * 2 ^ (cnt6 b.size * 6 - b.size * 8) / 64 ^ i)) (ev_binop (d1 := .int (rowVal (octs b) * 2 ^ (cnt6 b.size * 6 - b.size * 8))) (by ktr_rel) (ev_binop ev_int (by ktr_rel) (op_pow_int (by decide) (by omega) (pow_bits (b := 64) (k := i) (by decide) hi'))) (op_divp (Int.pow_pos (by decide)) (pow_log (b := 64) (k := i) (by decide) (by decide) hi'))) ev_int (op_modp (by decide)))
    · rw [Int.toNat_natCast, List.filterMap_map]
      rw [← List.filterMap_eq_map]
      rfl
    · rw [lm_rep_flat_one, List.length_reverse, List.length_map, List.length_range, List.length_replicate, sizeLine_eq]; omega
    · unfold shownP
      rw [hlen, lm_rep_flat_one, List.map_append, List.map_reverse, List.map_map, List.map_replicate]; rfl
    · exact flat_int
end

/-- figures by their signs -/
noncomputable def textS (sg : Str) (fs : List Int) : Str := ⟨(fs.map fun f => sg.cps.getD f.toNat 0).toArray⟩
theorem glued_singles (cs : List Nat) : ∀ a : Array Nat, (cs.map fun c => (⟨#[c]⟩ : Str)).foldl (fun acc p => acc ++ ("" : Str).cps ++ p.cps) a = a ++ cs.toArray := by
  induction cs with
  | nil => intro a; simp
  | cons c r ih =>
    intro a
    rw [List.map_cons, List.foldl_cons, ih]
    have : ("" : Str).cps = #[] := rfl
    rw [this]; simp
theorem join_singles (cs : List Nat) : Txt.join "" (cs.map fun c => (⟨#[c]⟩ : Str)) = ⟨cs.toArray⟩ := by
  have h2 : Txt.join "" (cs.map fun c => (⟨#[c]⟩ : Str)) = Builtin.Str.glued "" (cs.map fun c => (⟨#[c]⟩ : Str)) := rfl
  rw [h2]
  cases cs with
  | nil => rfl
  | cons c r =>
    show (⟨(r.map fun c => (⟨#[c]⟩ : Str)).foldl (fun acc p => acc ++ ("" : Str).cps ++ p.cps) #[c]⟩ : Str) = _
    rw [glued_singles]; simp
noncomputable def InSg (sg : Str) (fs : List Int) : Prop := ∀ f ∈ fs, 0 ≤ f ∧ f < sg.length
/-- what a piece says -/
noncomputable def dueP (eq q : Int) (piece : List Int) : Str ⊕ PP :=
  if (!piece.contains eq) = true then .inl "ValueError"
  else if piece.drop (piece.idxOf eq + 1) = [] then .inl "IndexError"
  else .inr (piece.take (piece.idxOf eq), if (piece.drop (piece.idxOf eq + 1)).head? = some q ∧ (piece.drop (piece.idxOf eq + 1)).getLast? = some q then cut (piece.drop (piece.idxOf eq + 1)) (some 1) (some (-1)) else piece.drop (piece.idxOf eq + 1))
section
variable {prog : Program} {w : World} {mg mb : Str → Option Value}
theorem fn_text {fs : List Int} {sg : Str} (hl : fs.length ≤ 1000) (hs : sg.length ≤ 1000) (hi : InSg sg fs) : Fn prog w (KK3 w) mg mb 3 153 [.lst (fs.map .int), .str sg] [] (.str (textS sg fs)) := by
  refine ⟨fun A s vs kvs R hf G r hk rk k => ?_⟩
  obtain ⟨v, u, rfl, rv, ru⟩ := r.inv2
  cases kvs with
  | cons _ _ => cases hk
  | nil =>
  refine enter_cells (vars := [("signs", (true, .str sg)), ("figures", (true, .lst (fs.map .int)))]) hf G (by rfl) (by rfl) (by rfl) (fun L => by rfl) (by exact .cons ru (.cons rv .nil)) ?_
  intro L s₁ F
  refine ex_return (d := .str (textS sg fs)) F (Ev.as (ev_meth ev_str meth_join (evl_cons (d := .lst ((fs.map fun f => (⟨#[sg.cps.getD f.toNat 0]⟩ : Str)).map .str)) (EvFL.ev (EvFL.as (evfl_comp (fl := true) (ds := fs.map .int) (fun d => [("figure", d)]) (fun d => match d with | .int f => some (.str ⟨#[sg.cps.getD f.toNat 0]⟩) | _ => none) F.vs hf.hh
      (Sr.c (st := none) (by exact sr_list hf.hh (by ktr_rel))) (fun _ => rfl) trivial (fun d _ => .name _ _ _) (fun d _ => loc1 (P := True) rfl) (by rw [List.length_map, sizeLine_eq]; omega) ?_) ?_)) evl_nil) (call_join ?_)) ?_) fun v s' F r => k _ _ F.keeps r
  · intro C a0 b' s' outs d hd hb F'
    obtain ⟨f, hfm, rfl⟩ := List.mem_map.mp hd
    refine ⟨ts_nil, fun d' e => ?_⟩
    cases e
    have h1 := hi f hfm
    have hlt : f.toNat < sg.cps.size := by have : sg.length = sg.cps.size := rfl; omega
    exact evn_flat (ev_item (d1 := .str sg) (by ktr_rel) (by ktr_rel) (op_item_str h1.1 (by omega) (by rw [Array.getElem?_eq_getElem hlt, Array.getD, dif_pos hlt]; rfl)))
  · rw [List.filterMap_map, List.map_map, ← List.filterMap_eq_map]; rfl
  · rw [List.map_map]
    have : (fs.map (Str.length ∘ fun f => (⟨#[sg.cps.getD f.toNat 0]⟩ : Str))).sum = fs.length := by
      clear hl hi F r ru rv k
      induction fs with
      | nil => rfl
      | cons x t ih => rw [List.map_cons, List.sum_cons, ih]; show 1 + _ = _; rw [List.length_cons, Nat.add_comm]
    rw [this, List.length_map]
    show _ + _ * 0 ≤ _
    omega
  · have : (fs.map fun f => (⟨#[sg.cps.getD f.toNat 0]⟩ : Str)) = (fs.map fun f => sg.cps.getD f.toNat 0).map fun c => (⟨#[c]⟩ : Str) := by rw [List.map_map]; rfl
    rw [this, join_singles]; rfl
theorem drop_cut {xs : List Int} {n : Nat} (h : n ≤ xs.length) : cut xs (some (n : Int)) none = xs.drop n := by
  unfold cut
  simp only [Option.elim]
  have : clipAt xs.length (n : Int) = n := by unfold clipAt; omega
  rw [this, List.take_of_length_le (by simp)]
theorem take_cut {xs : List Int} {n : Nat} (h : n ≤ xs.length) : cut xs none (some (n : Int)) = xs.take n := by
  unfold cut
  simp only [Option.elim]
  have : clipAt xs.length (n : Int) = n := by unfold clipAt; omega
  rw [this]; simp
theorem fn_due {piece : List Int} {eq q : Int} (hl : piece.length ≤ 200) : FnF prog w (KK3 w) mg mb 3 143 [.lst (piece.map .int), .int eq, .int q] [] (SD (dueP eq q piece)) := by
  refine ⟨fun A s vs kvs R hf G r hk rk k => ?_⟩
  cases r with | cons rv r =>
  obtain ⟨u, t, rfl, ru, rt⟩ := r.inv2
  cases kvs with
  | cons _ _ => cases hk
  | nil =>
  refine enter_plain (vars := [("quote", (true, .int q)), ("equals", (true, .int eq)), ("piece", (true, .lst (piece.map .int)))]) hf G (by rfl) (by rfl) (fun S => by rfl) (by rfl) (by exact .cons rt (.cons ru (.cons rv .nil))) ?_
  intro L s₁ F
  refine ex_if F (tr_cmp (by ktr_rel) (by ktr_rel) cmp_notin_ints) (fun s₂ F e => ?_) (fun s₂ F e => ?_)
  · refine ex_returnF F (.refl _) (evn_flat ev_str) fun v s' ks rv => k _ _ ks ?_
    unfold dueP; rw [if_pos e]; exact rv
  refine ex_nil ?_
  have hm : eq ∈ piece := by simpa using e
  have hp : piece.idxOf eq < piece.length := List.idxOf_lt_length_iff.mpr hm
  refine ex_assign F (ev_meth (by ktr_rel) meth_lindex (by kwd_rel) (call_lindex hm (by omega))) fun s₂ F => ?_
  have hrest : piece.drop (piece.idxOf eq + 1) = cut piece (some ((piece.idxOf eq + 1 : Nat) : Int)) none := (drop_cut (by omega)).symm
  have hlen : (piece.drop (piece.idxOf eq + 1)).length ≤ 200 := by rw [List.length_drop]; omega
  refine ex_own_new (ds := (piece.drop (piece.idxOf eq + 1)).map .int) F (by rfl) (EvFL.as (evfl_slice (by ktr_rel) (part_some (Ev.as (ev_binop (by ktr_rel) ev_int op_add_int) (by rfl))) part_none (by rw [List.length_map, sizeLine_eq]; omega)) (by rw [cut_map, hrest]; rfl)) flat_int fun s₃ F => ?_
  have hD : dueP eq q piece = if piece.drop (piece.idxOf eq + 1) = [] then .inl "IndexError"
      else .inr (piece.take (piece.idxOf eq), if (piece.drop (piece.idxOf eq + 1)).head? = some q ∧ (piece.drop (piece.idxOf eq + 1)).getLast? = some q then cut (piece.drop (piece.idxOf eq + 1)) (some 1) (some (-1)) else piece.drop (piece.idxOf eq + 1)) := by
    unfold dueP; rw [if_neg (by rw [e]; simp)]
  rw [hD] at k
  generalize piece.drop (piece.idxOf eq + 1) = val at F hlen k
  refine ex_if F (tr_not (tr_val (ev_own F) (truth_list (by rw [List.length_map, sizeLine_eq]; omega)))) (fun s₄ F e => ?_) (fun s₄ F e => ?_)
  · have : val = [] := by simpa using e
    rw [if_pos this] at k
    exact ex_returnF F (.refl _) (evn_flat ev_str) fun v s' ks rv => k _ _ ks rv
  refine ex_nil ?_
  have hne : val ≠ [] := by simpa using e
  rw [if_neg hne] at k
  have h0 : 0 < val.length := List.length_pos_iff.mpr hne
  have hhd : val[0]? = some (val.head hne) := by rw [← List.head?_eq_getElem?]; exact List.head?_eq_some_head hne
  have hlt : val[val.length - 1]? = some (val.getLast hne) := by rw [← List.getLast?_eq_getElem?]; exact List.getLast?_eq_some_getLast hne
  have hcond : ((val.head hne == q) && (val.getLast hne == q)) = true ↔ (val.head? = some q ∧ val.getLast? = some q) := by
    rw [Bool.and_eq_true, beq_iff_eq, beq_iff_eq, List.head?_eq_some_head hne, List.getLast?_eq_some_getLast hne, Option.some_inj, Option.some_inj]
  refine ex_if (b := (val.head hne == q) && (val.getLast hne == q)) F (tr_and (tr_cmp (ev_item (d1 := .lst (val.map .int)) (d := .int (val.head hne)) (ev_own F) ev_int (op_item_list (by decide) (by decide) (by rw [List.getElem?_map]; show Option.map _ val[0]? = _; rw [hhd]; rfl))) (by ktr_rel) cmp_eq_int) fun _ => tr_and1 (tr_cmp (ev_item (d1 := .lst (val.map .int)) (d := .int (val.getLast hne)) (ev_own F) (ev_neg ev_int) (op_last_list (by rw [List.length_map]; omega) (by rw [List.getElem?_map, List.length_map, hlt]; rfl))) (by ktr_rel) cmp_eq_int)) (fun s₅ F e => ?_) (fun s₅ F e => ?_)
  · rw [if_pos (hcond.mp e)] at k
    refine ex_own_new (ds := (cut val (some 1) (some (-1))).map .int) F (by rfl) (EvFL.as (evfl_slice (ev_own F) (part_some ev_int) (part_some (ev_neg ev_int)) (by rw [List.length_map, sizeLine_eq]; omega)) (by rw [cut_map])) flat_int fun s₆ F => ex_nil ?_
    exact ex_return_pair F (EvFL.as (evfl_slice (by ktr_rel) part_none (part_some (by ktr_rel)) (by rw [List.length_map, sizeLine_eq]; omega)) (by rw [cut_map, take_cut (by omega)])) flat_int flat_int fun v s' ks rv => k _ _ ks rv
  · rw [if_neg (fun h => by rw [hcond.mpr h] at e; cases e)] at k
    refine ex_nil ?_
    exact ex_return_pair F (EvFL.as (evfl_slice (by ktr_rel) part_none (part_some (by ktr_rel)) (by rw [List.length_map, sizeLine_eq]; omega)) (by rw [cut_map, take_cut (by omega)])) flat_int flat_int fun v s' ks rv => k _ _ ks rv
end

/-- where a figure stands -/
noncomputable def placesI (c : Int) (fs : List Int) : List Int := fs.zipIdx.filterMap fun p => if (p.1 == c) = true then some (p.2 : Int) else none
noncomputable def endsP (c : Int) (fs : List Int) : List Int := placesI c fs ++ [(fs.length : Int)]
noncomputable def allP (c : Int) (fs : List Int) : List (List Int) := ((0 :: (endsP c fs).map (· + 1)).zip (endsP c fs)).map fun p => cut fs (some p.1) (some p.2)
/-- the parts of a row of figures -/
noncomputable def piecesP (c : Int) (fs : List Int) : List (List Int) := if (allP c fs).getLast? = some [] then (allP c fs).dropLast else allP c fs
noncomputable def FD (fs : List Int) : D := .lst (fs.map .int)
noncomputable def placeG (c : Int) (d : D) : Option D := match d with
  | .tup [.int i, .int f] => if (f == c) = true then some (.int i) else none
  | _ => none
theorem placeG_eq (c : Int) (fs : List Int) : (enumD (fs.map .int)).filterMap (placeG c) = (placesI c fs).map .int := by
  unfold enumD placesI
  rw [List.filterMap_map]
  have : ∀ (l : List Int) (n : Nat), ((l.map D.int).zipIdx n).filterMap (placeG c ∘ fun p => D.tup [.int p.2, p.1]) = ((l.zipIdx n).filterMap fun p => if (p.1 == c) = true then some (p.2 : Int) else none).map D.int := by
    intro l
    induction l with
    | nil => intro n; rfl
    | cons x r ih =>
      intro n
      rw [List.map_cons, List.zipIdx_cons, List.zipIdx_cons, List.filterMap_cons, List.filterMap_cons, ih]
      have e0 : (placeG c ∘ fun p => D.tup [.int p.2, p.1]) (D.int x, n) = if (x == c) = true then some (D.int (n : Nat)) else none := rfl
      rw [e0]
      by_cases h : (x == c) = true
      · simp only [h, if_true]; rfl
      · simp only [h]; rfl
  exact this fs 0
theorem placesI_len (c : Int) (fs : List Int) : (placesI c fs).length ≤ fs.length := by
  unfold placesI
  exact Nat.le_trans (List.length_filterMap_le _ _) (by simp)
theorem endsP_len (c : Int) (fs : List Int) : (endsP c fs).length ≤ fs.length + 1 := by
  unfold endsP; have := placesI_len c fs; simp; omega
theorem allP_len (c : Int) (fs : List Int) : (allP c fs).length = (endsP c fs).length := by unfold allP; simp
theorem cut_init {α : Type} (l : List α) : cut l none (some (-1)) = l.dropLast := by
  unfold cut
  simp only [Option.elim]
  have : clipAt l.length (-1) = l.length - 1 := by unfold clipAt; simp only [show (-1 : Int) < 0 from by decide, if_true]; omega
  rw [this, List.dropLast_eq_take]; simp
section
variable {prog : Program} {w : World} {mg mb : Str → Option Value}
theorem fn_pieces {fs : List Int} {c : Int} (hl : fs.length ≤ 200) : Fn prog w (KK3 w) mg mb 3 136 [.lst (fs.map .int), .int c] [] (.lst ((piecesP c fs).map FD)) := by
  refine ⟨fun A s vs kvs R hf G r hk rk k => ?_⟩
  obtain ⟨v, u, rfl, rv, ru⟩ := r.inv2
  cases kvs with
  | cons _ _ => cases hk
  | nil =>
  refine enter_cells (vars := [("comma", (true, .int c)), ("figures", (true, .lst (fs.map .int)))]) hf G (by rfl) (by rfl) (by rfl) (fun L => by rfl) (by exact .cons ru (.cons rv .nil)) ?_
  intro L s₁ F
  have hpl := placesI_len c fs
  have hel := endsP_len c fs
  refine ex_assign (d := .lst ((endsP c fs).map .int)) F (Ev.as (ev_binop (d1 := .lst ((placesI c fs).map .int)) (EvFL.ev (EvFL.as (evfl_comp (fl := false) (ds := enumD (fs.map .int)) (fun d => match d with | .tup [a, b] => [("figure", b), ("place", a)] | _ => []) (placeG c) F.vs hf.hh
      (Sr.c (st := none) (by exact sr_enum hf.hh (nm_boot (G.stays F.keep) (by rfl) Boot.enumerate) (by ktr_rel))) (fun q => by cases q) trivial (fun d hd => ?_) (fun d hd => ?_) (by rw [enumD_len, List.length_map, sizeLine_eq]; omega) ?_) (placeG_eq c fs)))
      (ev_list (evl_cons (ev_call (nm_boot (G.stays F.keep) (by rfl) Boot.len) (.builtin _) (by kwd_rel) (call_len_lst (by rw [List.length_map, sizeLine_eq]; omega))) evl_nil) (by show 1 ≤ sizeLine; decide)) (op_add_list (by rw [List.length_map, sizeLine_eq]; show _ + 1 ≤ _; omega))) (by unfold endsP; rw [List.map_append, List.length_map]; rfl)) fun s₂ F => ?_
  · obtain ⟨j, d0, hj, rfl⟩ := enumD_mem hd
    exact .pair _ _ _ _ _ _ _ _
  · obtain ⟨j, d0, hj, rfl⟩ := enumD_mem hd
    exact loc2 rfl rfl
  · intro C a0 b s' outs d hd hb F'
    obtain ⟨j, d0, hj, rfl⟩ := enumD_mem hd
    rw [List.getElem?_map] at hj
    cases hq : fs[j]? with
    | none => rw [hq] at hj; cases hj
    | some f =>
    rw [hq] at hj; cases hj
    have hfd : placeG c (.tup [.int (j : Nat), .int f]) = if (f == c) = true then some (.int (j : Nat)) else none := rfl
    rw [hfd]
    refine ⟨ts_one (Tr.as (tr_cmp (by ktr_rel) (by ktr_rel) cmp_eq_int) (by by_cases h : (f == c) = true <;> simp [h])), fun d' e => ?_⟩
    by_cases h : (f == c) = true
    · rw [if_pos h] at e; cases e
      exact evn_flat (by ktr_rel)
    · rw [if_neg h] at e; cases e
  refine ex_zip (as := 0 :: (endsP c fs).map (· + 1)) (bs := endsP c fs) (fun p => FD (cut fs (some p.1) (some p.2))) F hf.hh (nm_boot (G.stays F.keep) (by rfl) PyProof.Rows.boot_zip)
    (Ev.as (ev_binop (d1 := .lst [.int 0]) (d2 := .lst (((endsP c fs).map (· + 1)).map .int)) (ev_list (by kwd_rel) (by show 1 ≤ sizeLine; decide)) (EvFL.ev (EvFL.as (evfl_comp (fl := true) (ds := (endsP c fs).map .int) (fun d => [("end", d)]) (fun d => match d with | .int e => some (.int (e + 1)) | _ => none) F.vs hf.hh
      (Sr.c (st := none) (by exact sr_list hf.hh (by ktr_rel))) (fun _ => rfl) trivial (fun d _ => .name _ _ _) (fun d _ => loc1 (P := True) rfl) (by rw [List.length_map, sizeLine_eq]; omega) ?_) ?_)) (op_add_list (by rw [List.length_map, List.length_map, sizeLine_eq]; show 1 + _ ≤ _; omega))) (by rfl))
    (by ktr_rel) (by rw [List.length_cons, List.length_map, sizeLine_eq]; omega) rfl rfl ?_ fun g s₃ ug F => ?_
  · intro C a0 b' s' outs d hd hb F'
    obtain ⟨e', hem, rfl⟩ := List.mem_map.mp hd
    refine ⟨ts_nil, fun d' e => ?_⟩
    cases e
    exact evn_flat (ev_binop (by ktr_rel) ev_int op_add_int)
  · rw [List.filterMap_map, List.map_map, ← List.filterMap_eq_map]; rfl
  · intro C a0 b' s' outs p hp hb F'
    exact EvFL.evn (EvFL.as (evfl_slice (by ktr_rel) (part_some (by ktr_rel)) (part_some (by ktr_rel)) (by rw [List.length_map, sizeLine_eq]; omega)) (by rw [cut_map])) flat_int
  have hall : ((0 :: (endsP c fs).map (· + 1)).zip (endsP c fs)).map (fun p => FD (cut fs (some p.1) (some p.2))) = (allP c fs).map FD := by unfold allP; rw [List.map_map]; rfl
  rw [hall] at F
  have hne : allP c fs ≠ [] := by
    intro h
    have h1 := allP_len c fs
    rw [h] at h1
    have h2 : (endsP c fs).length = (placesI c fs).length + 1 := by unfold endsP; simp
    rw [h2] at h1; cases h1
  have hln : (allP c fs).length ≤ 201 := by rw [allP_len]; omega
  have hlast : ((allP c fs).map FD)[((allP c fs).map FD).length - 1]? = some (FD ((allP c fs).getLast hne)) := by
    rw [List.getElem?_map, List.length_map, ← List.getLast?_eq_getElem?, List.getLast?_eq_some_getLast hne]; rfl
  have hlastlen : ((allP c fs).getLast hne).length ≤ 200 := by
    have hm := List.getLast_mem hne
    unfold allP at hm
    obtain ⟨p, _, e⟩ := List.mem_map.mp hm
    have : (allP c fs).getLast hne = cut fs (some p.1) (some p.2) := e.symm
    rw [this]
    unfold cut
    rw [List.length_take, List.length_drop]
    omega
  refine ex_return (d := .lst ((piecesP c fs).map FD)) F (ev_ifexp (c := !(((allP c fs).getLast hne).map D.int).isEmpty) (tr_val (ev_item (d1 := .lst ((allP c fs).map FD)) (by ktr_rel) (ev_neg ev_int) (op_last_list (by rw [List.length_map]; omega) hlast)) (truth_list (by rw [List.length_map, sizeLine_eq]; omega)))
    (fun e => Ev.as (d := .lst ((allP c fs).map FD)) (by ktr_rel) (by
      unfold piecesP
      rw [if_neg]
      rw [List.getLast?_eq_some_getLast hne]
      intro h
      have h := Option.some.inj h
      rw [h] at e; cases e))
    (fun e => EvFL.ev (EvFL.as (evfl_slice (by ktr_rel) part_none (part_some (ev_neg ev_int)) (by rw [List.length_map, sizeLine_eq]; omega)) (by
      unfold piecesP
      rw [if_pos, cut_map, cut_init]
      rw [List.getLast?_eq_some_getLast hne]
      congr 1
      simpa using e)))) fun v s' F r => k _ _ (F.keepsUp ug) r
end

noncomputable def TD : String ⊕ List (Str × Str) → D
  | .inl X => .str (Str.ofString X)
  | .inr ps => .lst (itemsD ps)
theorem str_of_is {k : Str} {v : Value} {prog : Program} {w : World} (h : (strKind prog w).is k v = true) : ∃ u, v = .str k u := Value.isStrOf_shape h
section
variable {prog : Program} {w : World} {mg mb : Str → Option Value}
theorem run_items {A : Around} {s : Shared} {v1 : Value} {R : Result → Shared → Prop} {items : List Str} {outer : List Env} {g : Heap} (hl : items.length ≤ 1000) (hl2 : ∀ t ∈ items, t.length ≤ 1000) (hf : Fit A 12) (hfr : A.frames = some outer) (G : Gr (KK3 w) mg mb g)
    (hg : g.StaysIn s.heap) (hFF : s.heap.FunFrames g outer) (r1 : Rep s.heap v1 (.lst (items.map .str)))
    (kok : ∀ ps, kqGo items [] = .inr ps → ∀ v s', Keeps s s' → Rep s'.heap v (.lst (itemsD ps)) → R (.ok (.ret v)) s')
    (kerr : ∀ X, kqGo items [] = .inl X → ∀ v s', (∃ h tk, s' = { s with heap := h, toks := tk }) → g.StaysIn s'.heap → s.heap.UpToSlots s'.heap → Rep s'.heap v (.str (Str.ofString X)) → R (.ok (.ret v)) s') :
    codeAny (model prog w) A (.call (.ref 165) ⟨[v1], []⟩) R s := by
  have Gs : Gr (KK3 w) mg mb s.heap := G.stays hg
  refine enter_plain (vars := [("items", (true, .lst (items.map .str)))]) hf Gs (by rfl) (by rfl) (fun S => by rfl) (by rfl) (by exact .cons r1 .nil) ?_
  intro L s₁ F
  have hLg : g.get? L = none := none_stays hg F.fresh
  refine ex_try ?_
  have Gk := Gs.stays F.keep
  refine wpAny_execs_cons (wpAny_Return_some ?_)
  refine wpAny_bind ((nm_boot Gk (by rfl) Boot.list).run _ _ _ _ (stays_refl _) (callWith_any rfl (.type _) (args_cons ?_ rfl)))
  refine MethodCall_ (pl := ?pl) ?_ ?he
  case he => rfl
  refine wpAny_bind ((nm_glob (v := .ref 28) Gk (by rfl)).run _ _ _ _ (stays_refl _) (callWith_any rfl (.fn (Gk.X 28 _ (by rfl)) (by rfl)) ((evl_cons (d := .lst (items.map .str)) (ev_loc F (by rfl)) evl_nil).run _ _ _ _ (stays_refl _) fun vs s2 k2 rl => ⟨keeps_stays k2, ?_⟩)))
  obtain ⟨va, rfl, ra⟩ := rl.inv1
  have F2 := F.step k2
  have hst : s.heap.StaysIn s2.heap := F2.keep
  have hFF2 := F2.frames (g := g) rfl rfl hLg (hFF.of_keeps fun b o e _ => ⟨o, hst b o e, rfl⟩)
  refine wpAny_call (run_keqv hl hl2 (hf.deeper.le (by decide)) (Around.frames_deeper hfr) (Gs.stays hst) (stays_trans hg hst) hFF2 ra ?_ ?_)
  · intro ps hps a o s3 k3 hfr3 hlow ho hD
    have kall := keeps_trans k2 k3
    have F3 := F.step kall
    obtain ⟨kvs, hdo, sp⟩ := id hD
    have hm : s3.heap.DictOf (strKind prog w) a kvs := Heap.dictOf_iff.mpr ⟨o, ho, hdo⟩
    obtain ⟨ep, hm'⟩ := hm.dictAt
    refine getMethod_builtin hm.typeIs PySem.F.plainAttrs_dict PySem.F.slot_dict_items PySem.F.type_dict_items hm.mapOf.noDict ?_
    refine callWith_any rfl (.builtin _) (args_nil ⟨stays_refl _, ?_⟩)
    refine call_meetsIn PySem.F.slot_dict_items hm.typeIs PySem.F.entry_dict_items (PySem.F.args_dict_items_1 _) (meets_dict_items (strKind prog w) a hlow) ⟨⟨kvs, hm⟩, ?_⟩
    have k4 := keeps_push s3 { cls := .type "dict_items", data := .fields #[.ref a] }
    refine args_nil ⟨keeps_stays (keeps_trans kall k4), ?_⟩
    have hkn : kvs.length ≤ sizeLine := by
      have h1 := sp.length
      have h2 := kqGo_len hps
      rw [h1, sizeLine_eq]; simp at h2; omega
    refine kdx_call (knd := strKind prog w) (kvs := kvs) (ep := ep) hf.deeper.hh ⟨_, Heap.get?_push_size _ rfl, rfl, rfl⟩ (hm'.push _) hkn fun h' tk acc c as hk hS hlen hG hacc => ?_
    have k5 : Keeps { s3 with heap := s3.heap.push { cls := .type "dict_items", data := .fields #[.ref a] } } { s3 with heap := h', toks := tk } := ⟨h', tk, rfl, hk⟩
    have F5 := F3.step (keeps_trans k4 k5)
    have hres : Rep h' (.ref (s3.heap.push { cls := .type "dict_items", data := .fields #[.ref a] }).objs.size) (.lst (itemsD ps)) := by
      refine .lst (vs := acc) ⟨c, hS⟩ ?_
      rw [hacc]
      refine repL_of_get (by unfold itemsD; rw [List.length_map, List.length_map, hlen, sp.length]) fun j v d hv hd => ?_
      rw [List.getElem?_map] at hv
      cases ha : as[j]? with
      | none => rw [ha] at hv; cases hv
      | some b =>
      rw [ha] at hv; cases hv
      obtain ⟨key, kk, x, e1, e2, e3⟩ := hG.pairs j b ha
      unfold itemsD at hd
      rw [List.getElem?_map] at hd
      cases hp : ps[j]? with
      | none => rw [hp] at hd; cases hd
      | some p =>
      obtain ⟨pk, py⟩ := p
      rw [hp] at hd; cases hd
      obtain ⟨t, ht⟩ := sp.get hp
      rw [ht] at e1; cases e1
      obtain ⟨u, rfl⟩ := str_of_is e2
      exact .tup (vs := #[.str _ u, .str _ t]) ⟨_, 0, e3, rfl, rfl⟩ (.cons (.str _ _) (.cons (.str _ _) .nil))
    exact kok ps hps _ _ F5.keeps hres
  · intro X hX e a0 s3 hs3 hfl hup
    have ue : s.heap.UpToSlots s3.heap := (Heap.UpToSlots.of_keeps hst).trans hup
    have hs3' : ∃ h tk, s3 = { s with heap := h, toks := tk } := by
      obtain ⟨h1, t1, e1, _⟩ := F2.keeps
      obtain ⟨h2, t2, e2⟩ := hs3
      exact ⟨h2, t2, by rw [e2, e1]⟩
    refine caught (kqGo_err hX) G (Around.frames_deeper hfr) rfl hfl ue hs3' (nm_boot G (by rfl) (by rfl)) (nm_boot G (by rfl) (by rfl)) fun t s' hs' hg' hu' => ?_
    exact kerr X hX _ _ hs' hg' hu' (.str _ _)
end

theorem kit_lst (w : World) : kitOne (KK3 w) (.type "list") (.type "str") = some false := by kernel_rfl
/-- what is known, by signs -/
noncomputable def knownS (sg : Str) : Str ⊕ List PP → Str ⊕ List (Str × Str)
  | .inl X => .inl X
  | .inr ps => .inr (ps.map fun p => (textS sg p.1, textS sg p.2))
noncomputable def KD : Str ⊕ List (Str × Str) → D
  | .inl X => .str X
  | .inr ps => .lst (itemsD ps)
theorem put_mem {known : List PP} {p q : PP} (h : q ∈ put known p) : q ∈ known ∨ q = p := by
  unfold put at h
  split at h
  · rcases List.mem_or_eq_of_mem_set h with h | h
    · exact .inl h
    · exact .inr h
  · rcases List.mem_append.mp h with h | h
    · exact .inl h
    · exact .inr (List.mem_singleton.mp h)
theorem merged_mem : ∀ {dues : List (Str ⊕ PP)} {known ps : List PP}, merged dues known = .inr ps → ∀ p ∈ ps, p ∈ known ∨ .inr p ∈ dues
  | [], known, ps, h, p, hp => by cases h; exact .inl hp
  | .inl s :: r, known, ps, h, p, hp => by cases h
  | .inr q :: r, known, ps, h, p, hp => by
    rw [merged] at h
    rcases merged_mem h p hp with h' | h'
    · rcases put_mem h' with h' | h'
      · exact .inl h'
      · exact .inr (by rw [h']; exact .head _)
    · exact .inr (.tail _ h')
theorem merged_len {dues : List (Str ⊕ PP)} {known ps : List PP} (h : merged dues known = .inr ps) : ps.length ≤ known.length + dues.length := by
  induction dues generalizing known with
  | nil => cases h; simp
  | cons d r ih =>
    cases d with
    | inl s => cases h
    | inr q => rw [merged] at h; have := ih h; have := put_len known q; simp; omega
/-- pairs of figures that the signs serve -/
noncomputable def PPOk (sg : Str) (p : PP) : Prop := (InSg sg p.1 ∧ p.1.length ≤ 1000) ∧ InSg sg p.2 ∧ p.2.length ≤ 1000
section
variable {prog : Program} {w : World} {mg mb : Str → Option Value}
theorem fn_known {dues : List (Str ⊕ PP)} {sg : Str} (hl : dues.length ≤ 100) (hs : sg.length ≤ 1000) (hd : ∀ p, .inr p ∈ dues → PPOk sg p) : Fn prog w (KK3 w) mg mb 6 158 [.lst (dues.map SD), .str sg] [] (KD (knownS sg (merged dues []))) := by
  refine ⟨fun A s vs kvs R hf G r hk rk k => ?_⟩
  obtain ⟨v, u, rfl, rv, ru⟩ := r.inv2
  cases kvs with
  | cons _ _ => cases hk
  | nil =>
  refine enter_cells (vars := [("signs", (true, .str sg)), ("dues", (true, .lst (dues.map SD)))]) hf G (by rfl) (by rfl) (by rfl) (fun L => by rfl) (by exact .cons ru (.cons rv .nil)) ?_
  intro L s₁ F
  refine ex_assign F (ev_fn (G.stays F.keep) (hf.deeper.le (by decide)) (fn_merged hl) (by kwd_rel)) fun s₂ F => ?_
  cases hm : merged dues [] with
  | inl X =>
    rw [hm] at F k
    exact ex_return (d := .str X) F (ev_ifexp (c := true) (tr_val (ev_call (nm_boot (G.stays F.keep) (by rfl) Boot.isinstance) (.builtin _) (evl_cons (d := MD (.inl X)) (by ktr_rel) (evl_cons (ev_type (nm_boot (G.stays F.keep) (by rfl) Boot.str)) evl_nil)) (call_isinstance1 (d := MD (.inl X)) (b := true) (G.stays F.keep) (kit_str w))) truth_bool)
      (fun _ => Ev.as (d := MD (.inl X)) (by ktr_rel) rfl) (fun e => by cases e)) fun v s' F r => k _ _ F.keeps r
  | inr ps =>
    rw [hm] at F k
    have hps : ps.length ≤ 100 := by have := merged_len hm; simp at this; omega
    refine ex_return (d := KD (knownS sg (.inr ps))) F (ev_ifexp (c := false) (tr_val (ev_call (nm_boot (G.stays F.keep) (by rfl) Boot.isinstance) (.builtin _) (evl_cons (d := MD (.inr ps)) (by ktr_rel) (evl_cons (ev_type (nm_boot (G.stays F.keep) (by rfl) Boot.str)) evl_nil)) (call_isinstance1 (d := MD (.inr ps)) (b := false) (G.stays F.keep) (kit_lst w))) truth_bool)
      (fun e => by cases e) (fun _ => EvFL.ev (EvFL.as (evfl_comp (fl := true) (ds := ps.map PD) (fun d => match d with | .tup [a, b] => [("value", b), ("key", a)] | _ => []) (fun d => match d with | .tup [.lst a, .lst b] => some (.tup [.str (textS sg (unInts a)), .str (textS sg (unInts b))]) | _ => none) F.vs hf.hh
        (Sr.c (st := none) (by exact sr_list hf.hh (Ev.as (d := MD (.inr ps)) (by ktr_rel) rfl))) (fun _ => rfl) trivial (fun d hd => ?_) (fun d hd => ?_) (by rw [List.length_map, sizeLine_eq]; omega) ?_) ?_))) fun v s' F r => k _ _ F.keeps r
    · obtain ⟨p, hp, rfl⟩ := List.mem_map.mp hd
      exact .pair _ _ _ _ _ _ _ _
    · obtain ⟨p, hp, rfl⟩ := List.mem_map.mp hd
      exact loc2 rfl rfl
    · intro C a0 b s' outs d hdm hb F'
      obtain ⟨p, hp, rfl⟩ := List.mem_map.mp hdm
      have hok : PPOk sg p := by
        rcases merged_mem hm p hp with h | h
        · cases h
        · exact hd p h
      have hG' := G.stays (stays_trans F.keep (stays_trans hb F'.keep))
      have hfd : (match PD p with | .tup [.lst a, .lst b] => some (D.tup [.str (textS sg (unInts a)), .str (textS sg (unInts b))]) | _ => none) = some (.tup [.str (textS sg p.1), .str (textS sg p.2)]) := by
        show some (D.tup [.str (textS sg (unInts (p.1.map .int))), .str (textS sg (unInts (p.2.map .int)))]) = _
        rw [unInts_map, unInts_map]
      refine ⟨ts_nil, fun d' e => ?_⟩
      rw [hfd] at e; cases e
      exact evn_tuple (evln_cons (evn_flat (ev_fn hG' (hf.deeper.le (by decide)) (fn_text hok.1.2 hs hok.1.1) (evl_cons (d := .lst (p.1.map .int)) (by ktr_rel) (by kwd_rel)))) (evln_cons (evn_flat (ev_fn hG' (hf.deeper.le (by decide)) (fn_text hok.2.2 hs hok.2.1) (evl_cons (d := .lst (p.2.map .int)) (by ktr_rel) (by kwd_rel)))) evln_nil)) (by show 2 ≤ sizeLine; decide)
    · rw [List.filterMap_map]
      show ps.filterMap _ = itemsD _
      unfold itemsD
      rw [List.map_map, ← List.filterMap_eq_map]
      refine congrArg (fun f => ps.filterMap f) (funext fun p => ?_)
      show some (D.tup [.str (textS sg (unInts (p.1.map .int))), .str (textS sg (unInts (p.2.map .int)))]) = _
      rw [unInts_map, unInts_map]; rfl
end

section
variable {prog : Program} {w : World} {mg mb : Str → Option Value}
theorem ex_told {A : Around} {env : Env} {s₀ s : Shared} {vars : Vars} {items : List Str} {es : List Expr} {tp p pos spos : Pos} {rest : List Stmt} {Q : Flow → Shared → Prop} {E : Value → Shared → Prop} (F : FS env s₀ s vars none) (hf : Fit A 12) (hfr : A.frames = some [env])
    (hkf : env.scope.kind = .function) (hfe : env.frame = some env.locals) (G : Gr (KK3 w) mg mb s₀.heap) (N : NameIs prog w A env s.heap "_law_told" (.ref 165)) (a : EvL prog w A env s.heap es [.lst (items.map .str)]) (hl : items.length ≤ 1000) (hl2 : ∀ t ∈ items, t.length ≤ 1000)
    (c : ∀ b s', Up s₀ b → FS env b s' (("told", (false, TD (kqGo items []))) :: settled vars) none → wpAny (model prog w) A (execs rest env) Q E s')
    (hst : storable env "told" = true := by rfl) (hn : noStar es = true := by rfl) (hs : swapsWith (.Call (.Name "_law_told" p) es [] pos) (some (.Name "told" tp)) spos.line env = pure false := by rfl) :
    wpAny (model prog w) A (execs (.Assign [.Name "told" tp] (.Call (.Name "_law_told" p) es [] pos) spos :: rest) env) Q E s := by
  refine wpAny_execs_cons (wpAny_Assign_Name ?_ hs)
  have hfn : (Callee s.heap (.ref 165)) := .fn ((G.stays F.keep).X 165 _ (by rfl)) (by rfl)
  refine wpAny_bind (N.run p s _ E (stays_refl _) (callWith_any hn hfn (a.run pos s _ E (stays_refl _) fun vs s1 k1 rl => ⟨keeps_stays k1, ?_⟩)))
  obtain ⟨v1, rfl, r1⟩ := rl.inv1
  obtain ⟨g, ug, FG, sq⟩ := (F.step k1).settle2
  refine wpAny_call (run_items (g := g.heap) hl hl2 hf hfr (G.stays ug.2) FG.keep (FG.frames hkf hfe FG.fresh trivial) r1 (fun ps hps v s2 k2 rv => ?_) fun X hX v s2 hs2 hg2 hu2 rv => ?_)
  · have F2 := FG.step k2
    exact st_store (d := TD (kqGo items [])) (b := false) F2 (by rw [hps]; exact rv) (fun q => by cases q) (storable_of hst).1 (storable_of hst).2 (fun ds q => by cases q) fun s3 F3 => c g s3 ug F3
  · have F2 := FG.slots hs2 hg2 hu2
    exact st_store (d := TD (kqGo items [])) (b := false) F2 (by rw [hX]; exact rv) (fun q => by cases q) (storable_of hst).1 (storable_of hst).2 (fun ds q => by cases q) fun s3 F3 => c g s3 ug F3
/-- the call where nothing is raised -/
theorem ev_told {A : Around} {env : Env} {s₀ s : Shared} {vars : Vars} {own : Own} {items : List Str} {ps : List (Str × Str)} {es : List Expr} {p pos : Pos} (F : FS env s₀ s vars own) (hf : Fit A 12) (hfr : A.frames = some [env])
    (hkf : env.scope.kind = .function) (hfe : env.frame = some env.locals) (G : Gr (KK3 w) mg mb s₀.heap) (N : NameIs prog w A env s.heap "_law_told" (.ref 165)) (a : EvL prog w A env s.heap es [.lst (items.map .str)]) (hl : items.length ≤ 1000) (hl2 : ∀ t ∈ items, t.length ≤ 1000)
    (hps : kqGo items [] = .inr ps) (hn : noStar es = true := by rfl) : Ev prog w A env s.heap (.Call (.Name "_law_told" p) es [] pos) (.lst (itemsD ps)) := ⟨fun s1 Q E q c => by
  have hfn : (Callee s.heap (.ref 165)) := .fn ((G.stays F.keep).X 165 _ (by rfl)) (by rfl)
  refine wpAny_bind (N.run p s1 _ E q (callWith_any hn (hfn.stays q) (a.run pos s1 _ E q fun vs s2 k1 rl => ⟨keeps_stays k1, ?_⟩)))
  obtain ⟨v1, rfl, r1⟩ := rl.inv1
  have st : s.heap.StaysIn s2.heap := stays_trans q (keeps_stays k1)
  refine wpAny_call (run_items (g := s₀.heap) hl hl2 hf hfr G (stays_trans F.keep st) ((F.frames (outer := []) hkf hfe F.fresh trivial).of_keeps fun b o e _ => ⟨o, st b o e, rfl⟩) r1 (fun ps' hps' v s3 k2 rv => ?_) fun X hX => by rw [hps] at hX; cases hX)
  rw [hps] at hps'; cases hps'
  exact c v s3 (keeps_trans k1 k2) rv⟩
end

noncomputable def numsP (ns : List Int) : List Int := (ns.take 5).map fun n => n % 100000
noncomputable def figsP (ns : List Int) : List Int := (numsP ns).flatMap drawn
noncomputable def wholeP (ns : List Int) : List Int := octP (figsP ns ++ [1, 62, 2, 63, 4, 62, 62, 63])
noncomputable def rowA (ns : List Int) (k : Int) : Array UInt8 := (cut (byteArr (wholeP ns)).toList none (some (((byteArr (wholeP ns)).size : Int) - (k + (numsP ns).sum) % 3))).toArray
noncomputable def sgBase : Str := "ABCDEFGHIJKLMNOPQRSTUVWXYZabcdefghijklmnopqrstuvwxyz0123456789"
noncomputable def padF (fs : List Int) : List Int := fs ++ List.replicate (-(fs.length : Int) % 4).toNat 0
structure PairOk (pair : Str) (eq comma q : Int) : Prop where
  occ : ∃ (i : Nat) (rest : List Nat), Builtin.Str.occurrences pair "=" 0 pair.length 1 = i :: rest ∧ 62 + (i : Int) = eq
  hc : (if Txt.contains pair "," = true then 125 - eq else -1) = comma
  hq : (if Txt.contains pair "\"" = true then 125 - eq else -1) = q
  ascii : ∀ c ∈ pair.cps.toList, c < 128
  len : pair.length = 2
inductive ToldOk (sg : Str) : String ⊕ List (Str × Str) → Str ⊕ List PP → Prop
  | err (X : String) : ToldOk sg (.inl X) (.inl (Str.ofString X))
  | ok (ps : List PP) : ToldOk sg (.inr (ps.map fun p => (textS sg p.1, textS sg p.2))) (.inr ps)
theorem ToldOk.eq {sg : Str} {x : String ⊕ List (Str × Str)} {y : Str ⊕ List PP} (h : ToldOk sg x y) : TD x = KD (knownS sg y) := by cases h <;> rfl
structure DecF (alt : Array UInt8) (x : Str) (o : List Int) : Prop where
  ascii : ∀ c ∈ x.cps.toList, c < 128
  q1 : (aRun (octs (decA alt (asBytes x)))).q ≠ 1
  q0 : (aRun (octs (decA alt (asBytes x)))).q ≠ 0 → 4 ≤ (aRun (octs (decA alt (asBytes x)))).q + (aRun (octs (decA alt (asBytes x)))).p
  out : (aRun (octs (decA alt (asBytes x)))).o = o
structure Math01 (pair : Str) (eq comma q : Int) (row : Array UInt8) : Prop where
  ascii : ∀ c ∈ (encA (asBytes pair) row).toList, c.toNat < 128
  http : phl (asText (encA (asBytes pair) row)) = (piecesP comma (shownP (octs row) eq)).map (textS (sgBase ++ pair))
  insg : InSg (sgBase ++ pair) (shownP (octs row) eq)
  tot : ((piecesP comma (shownP (octs row) eq)).map List.length).sum ≤ 60
  told : ∀ qs : List (List Int), (∀ x ∈ qs, x ∈ piecesP comma (shownP (octs row) eq)) → ToldOk (sgBase ++ pair) (kqGo (qs.map (textS (sgBase ++ pair))) []) (merged (qs.map (dueP eq q)) [])
  dec : ∀ fs, InSg (sgBase ++ pair) fs → fs.length % 4 = 0 → DecF (asBytes pair) (textS (sgBase ++ pair) fs) (octP fs)
structure All01 (ns : List Int) : Prop where
  m0 : Math01 "=," 62 63 (-1) (rowA ns 0)
  m1 : Math01 ",=" 63 62 (-1) (rowA ns 1)
  m2 : Math01 "=\"" 62 (-1) 63 (rowA ns 2)
  m3 : Math01 "\"=" 63 (-1) 62 (rowA ns 3)
theorem pair0 : PairOk "=," 62 63 (-1) := ⟨⟨0, [], by decide +kernel, rfl⟩, by decide +kernel, by decide +kernel, by decide +kernel, rfl⟩
theorem pair1 : PairOk ",=" 63 62 (-1) := ⟨⟨1, [], by decide +kernel, rfl⟩, by decide +kernel, by decide +kernel, by decide +kernel, rfl⟩
theorem pair2 : PairOk "=\"" 62 (-1) 63 := ⟨⟨0, [], by decide +kernel, rfl⟩, by decide +kernel, by decide +kernel, by decide +kernel, rfl⟩
theorem pair3 : PairOk "\"=" 63 (-1) 62 := ⟨⟨1, [], by decide +kernel, rfl⟩, by decide +kernel, by decide +kernel, by decide +kernel, rfl⟩
theorem figs_len (ns : List Int) : (figsP ns).length ≤ 20 := by
  unfold figsP
  have : ∀ l : List Int, (l.flatMap drawn).length = l.length * 4 := by
    intro l; induction l with
    | nil => rfl
    | cons x r ih => rw [List.flatMap_cons, List.length_append, ih]; show 4 + _ = _; rw [List.length_cons]; omega
  rw [this]; unfold numsP; simp; omega
theorem whole_len (ns : List Int) : (wholeP ns).length ≤ 21 := by
  unfold wholeP; rw [octP_len, List.length_append]; have := figs_len ns; simp; omega
theorem rowA_size (ns : List Int) (k : Int) : (rowA ns k).size ≤ 21 := by
  unfold rowA cut
  simp only [List.size_toArray, List.length_take, List.length_drop, Array.length_toList, byteArr_size]
  have := whole_len ns; omega
theorem shown_len (row : List Int) (eq : Int) (h : row.length ≤ 21) : (shownP row eq).length ≤ 60 := by
  unfold shownP cnt6; simp; omega
/-! the parts of what is known -/
theorem cut_len {α : Type} (l : List α) (lo hi : Option Int) : (cut l lo hi).length ≤ l.length := by
  unfold cut; rw [List.length_take, List.length_drop]; exact Nat.le_trans (Nat.min_le_right _ _) (Nat.sub_le _ _)
theorem due_ok {eq q : Int} {piece : List Int} {p : PP} (h : dueP eq q piece = .inr p) : (∀ f ∈ p.1, f ∈ piece) ∧ (∀ f ∈ p.2, f ∈ piece) ∧ p.1.length + p.2.length ≤ piece.length := by
  unfold dueP at h
  split at h
  · cases h
  split at h
  · cases h
  cases h
  refine ⟨fun f hf => List.mem_of_mem_take hf, fun f hf => ?_, ?_⟩
  · simp only at hf
    split at hf
    · unfold cut at hf; exact List.mem_of_mem_drop (List.mem_of_mem_drop (List.mem_of_mem_take hf))
    · exact List.mem_of_mem_drop hf
  · simp only
    rw [List.length_take]
    split
    · have h1 := cut_len (piece.drop (piece.idxOf eq + 1)) (some 1) (some (-1))
      rw [List.length_drop] at h1
      omega
    · rw [List.length_drop]; omega
noncomputable def wt (ps : List PP) : Nat := (ps.map fun p => p.1.length + p.2.length + 6).sum
theorem wt_set (known : List PP) (i : Nat) (p : PP) : wt (known.set i p) ≤ wt known + (p.1.length + p.2.length + 6) := by
  unfold wt
  induction known generalizing i with
  | nil => simp
  | cons x r ih =>
    cases i with
    | zero => simp only [List.set_cons_zero, List.map_cons, List.sum_cons]; omega
    | succ i => simp only [List.set_cons_succ, List.map_cons, List.sum_cons]; have := ih i; omega
theorem wt_put (known : List PP) (p : PP) : wt (put known p) ≤ wt known + (p.1.length + p.2.length + 6) := by
  unfold put
  split
  · exact wt_set _ _ _
  · unfold wt; simp
theorem wt_merged {eq q : Int} : ∀ {pcs : List (List Int)} {known ps : List PP}, merged (pcs.map (dueP eq q)) known = .inr ps → wt ps ≤ wt known + (pcs.map List.length).sum + 6 * pcs.length
  | [], known, ps, h => by cases h; simp
  | x :: r, known, ps, h => by
    rw [List.map_cons] at h
    cases hd : dueP eq q x with
    | inl X => rw [hd] at h; cases h
    | inr p =>
      rw [hd, merged] at h
      have h1 := wt_merged h
      have h2 := wt_put known p
      have h3 := (due_ok hd).2.2
      simp only [List.map_cons, List.sum_cons, List.length_cons]
      omega
theorem mem_sum {x : Nat} : ∀ {l : List Nat}, x ∈ l → x ≤ l.sum
  | y :: r, h => by
    rw [List.sum_cons]
    rcases List.mem_cons.mp h with rfl | h
    · omega
    · have := mem_sum h; omega
noncomputable def partsP (ps : List PP) : List (List Int) := ps.flatMap fun p => [p.1, p.2]
theorem parts_mem {ps : List PP} {x : List Int} (h : x ∈ partsP ps) : ∃ p ∈ ps, x = p.1 ∨ x = p.2 := by
  unfold partsP at h
  obtain ⟨p, hp, h⟩ := List.mem_flatMap.mp h
  simp only [List.mem_cons, List.not_mem_nil, or_false] at h
  exact ⟨p, hp, h⟩
theorem padF_len (fs : List Int) : (padF fs).length ≤ fs.length + 3 ∧ (padF fs).length % 4 = 0 := by
  unfold padF
  rw [List.length_append, List.length_replicate]
  omega
theorem pads_len (ps : List PP) : ((partsP ps).flatMap padF).length ≤ wt ps ∧ ((partsP ps).flatMap padF).length % 4 = 0 := by
  unfold partsP wt
  induction ps with
  | nil => exact ⟨Nat.le_refl _, rfl⟩
  | cons p r ih =>
    rw [List.flatMap_cons, List.flatMap_append, List.length_append, List.map_cons, List.sum_cons, List.flatMap_cons, List.flatMap_cons, List.flatMap_nil, List.append_nil, List.length_append]
    have h1 := padF_len p.1
    have h2 := padF_len p.2
    omega
theorem parts_len (ps : List PP) : (partsP ps).length = 2 * ps.length := by
  unfold partsP
  induction ps with
  | nil => rfl
  | cons p r ih => rw [List.flatMap_cons, List.length_append, ih]; simp; omega
theorem textS_append (sg : Str) (a b : List Int) : textS sg (a ++ b) = textS sg a ++ textS sg b := by
  show (⟨((a ++ b).map fun f => sg.cps.getD f.toNat 0).toArray⟩ : Str) = ⟨(a.map fun f => sg.cps.getD f.toNat 0).toArray ++ (b.map fun f => sg.cps.getD f.toNat 0).toArray⟩
  rw [List.map_append]; simp
theorem textS_zeros {sg : Str} (h : sg.cps.getD 0 0 = 65) (n : Nat) : textS sg (List.replicate n 0) = strRep "A" n := by
  show (⟨_⟩ : Str) = ⟨_⟩
  rw [List.map_replicate]
  have e : ("A" : Str).cps.toList = [65] := rfl
  rw [e, lm_rep_flat_one]
  show (⟨(List.replicate n (sg.cps.getD (0 : Int).toNat 0)).toArray⟩ : Str) = _
  rw [show (0 : Int).toNat = 0 from rfl, h]
theorem glued_all (cs : List Str) : ∀ a : Array Nat, cs.foldl (fun acc p => acc ++ ("" : Str).cps ++ p.cps) a = a ++ (cs.flatMap fun c => c.cps.toList).toArray := by
  induction cs with
  | nil => intro a; simp
  | cons c r ih =>
    intro a
    rw [List.foldl_cons, ih, List.flatMap_cons]
    have : ("" : Str).cps = #[] := rfl
    rw [this]
    exact Array.toList_inj.mp (by simp)
theorem join_flat (cs : List Str) : Txt.join "" cs = ⟨(cs.flatMap fun c => c.cps.toList).toArray⟩ := by
  have h2 : Txt.join "" cs = Builtin.Str.glued "" cs := rfl
  rw [h2]
  cases cs with
  | nil => rfl
  | cons c r =>
    show (⟨r.foldl (fun acc p => acc ++ ("" : Str).cps ++ p.cps) c.cps⟩ : Str) = _
    rw [glued_all, List.flatMap_cons]; simp
theorem join_texts (sg : Str) (l : List (List Int)) (f : List Int → List Int) : Txt.join "" (l.map fun x => textS sg (f x)) = textS sg (l.flatMap f) := by
  rw [join_flat]
  show (⟨_⟩ : Str) = ⟨_⟩
  congr 1
  rw [List.flatMap_map, List.map_flatMap]
  rfl

theorem filterMap_map_some {α β : Type} {f : D → Option β} {g : α → D} {h : α → β} (e : ∀ x, f (g x) = some (h x)) (l : List α) : (l.map g).filterMap f = l.map h := by
  induction l with
  | nil => rfl
  | cons x r ih => rw [List.map_cons, List.filterMap_cons, e x, List.map_cons, ih]
theorem Fit.cl {A : Around} {n k : Nat} (f : Fit A n) (h : k ≤ 100) : A.units + k < PySem.cLine := by have := f.un; show A.units + k < 9900; omega
noncomputable def bs2 (x y : Str) (d : D) : List (Str × D) := match d with | .tup [a, b] => [(y, b), (x, a)] | _ => []
theorem cut5 {ds : List D} : cut ds none (some 5) = ds.take 5 := by
  show (ds.drop 0).take (clipAt ds.length 5 - 0) = _
  have : clipAt ds.length 5 = min 5 ds.length := by unfold clipAt; simp; omega
  rw [this, List.drop_zero, Nat.sub_zero]
  by_cases h : 5 ≤ ds.length
  · rw [Nat.min_eq_left h]
  · rw [Nat.min_eq_right (by omega), List.take_of_length_le (Nat.le_refl _), List.take_of_length_le (by omega)]
theorem good_strs (L : List Str) : (D.lst (L.map .str)).good 1 = true := by
  show (L.map D.str).all (D.good 0) = true
  rw [List.all_eq_true]; intro d hd; obtain ⟨x, _, rfl⟩ := List.mem_map.mp hd; rfl
theorem good_KD (x : Str ⊕ List (Str × Str)) : (KD x).good 2 = true := by
  cases x with
  | inl s => rfl
  | inr ps =>
    show (itemsD ps).all (D.good 1) = true
    rw [List.all_eq_true]; intro d hd; obtain ⟨p, _, rfl⟩ := List.mem_map.mp hd; rfl
noncomputable abbrev natsD (is : List Nat) : D := .lst (is.map fun (i : Nat) => .int (i : Int))
noncomputable def fE (d : D) : Option D := match d with | .tup [.int i, _] => some (.int i) | _ => none
noncomputable def fS (L : List (Str ⊕ PP)) (d : D) : Option D := match d with | .int i => if (L.getD i.toNat (.inl "")).isLeft = true then none else some (.int i) | _ => none
noncomputable def fA (L : List (Str ⊕ PP)) (d : D) : Option D := match d with | .int i => if (L.getD i.toNat (.inl "")).isLeft = true then some (.lst [.int i]) else none | _ => none
noncomputable def fG (L : List Str) (d : D) : Option D := match d with | .int i => some (.str (L.getD i.toNat "")) | _ => none
noncomputable def fH (L : List (Str ⊕ PP)) (d : D) : Option D := match d with | .int i => some (SD (L.getD i.toNat (.inl ""))) | _ => none
theorem all_merged : ∀ {l : List (Str ⊕ PP)}, (∀ x ∈ l, x.isLeft = false) → ∀ known, ∃ ps, merged l known = .inr ps
  | [], _, known => ⟨known, rfl⟩
  | .inl s :: r, h, _ => by have := h _ (.head _); cases this
  | .inr p :: r, h, known => all_merged (fun x hx => h x (.tail _ hx)) (put known p)
theorem every_eq (ds : List D) : (enumD ds).filterMap fE = (List.range ds.length).map fun (i : Nat) => D.int (i : Int) := by
  unfold enumD
  rw [List.filterMap_map]
  have : ∀ (l : List D) (n : Nat), (l.zipIdx n).filterMap (fE ∘ fun p => D.tup [.int p.2, p.1]) = (List.range' n l.length).map fun (i : Nat) => D.int (i : Int) := by
    intro l
    induction l with
    | nil => intro n; rfl
    | cons x r ih => intro n; rw [List.zipIdx_cons, List.filterMap_cons, ih, List.length_cons, List.range'_succ, List.map_cons]; rfl
  rw [this ds 0, ← List.range_eq_range']
theorem nats_filter {g : Nat → Bool} {h : Nat → D} {f : D → Option D} (hf : ∀ i : Nat, f (.int (i : Int)) = if g i = true then some (h i) else none) (l : List Nat) : (l.map fun (i : Nat) => D.int (i : Int)).filterMap f = (l.filter g).map h := by
  induction l with
  | nil => rfl
  | cons x r ih =>
    rw [List.map_cons, List.filterMap_cons, hf, List.filter_cons]
    by_cases hg : g x = true
    · rw [if_pos hg, if_pos hg, List.map_cons]; simp only; rw [ih]
    · rw [if_neg hg, if_neg hg]; exact ih
section
variable {prog : Program} {w : World} {mg mb : Str → Option Value}
theorem run_law {A : Around} {s : Shared} {l : Addr} {vs : List Value} {ns : List Int} {R : Result → Shared → Prop} (hL : s.heap.IsList l vs.toArray) (hI : IntsAre vs ns) (hn : ns.length ≤ 63) (hf : Fit A 16) (hfr : A.frames = some []) (G : Gr (KK3 w) mg mb s.heap)
    (M : All01 ns) (k : ∀ s', Keeps s s' → R (.ok (.ret (.bool true))) s') : codeAny (model prog w) A (.call (.ref 170) ⟨[.ref l], []⟩) R s := by
  refine enter_cells (vars := [("script", (true, .raw (.ref l)))]) hf G (by rfl) (by rfl) (by rfl) (fun L => by rfl) (by exact .cons (.raw _) .nil) ?_
  intro L s₁ F
  have hL1 : s₁.heap.IsList l vs.toArray := hL.at fun o e => F.keep _ o e
  refine ex_comp (fl := true) (ds := (ns.take 5).map .int) (fun d => [("cell", d)]) (fun d => match d with | .int n => some (.int (n % 100000)) | _ => none) F hf.hh
    (Sr.c (st := none) (by exact sr_list hf.hh (EvFL.ev (EvFL.as (evfl_slice_raw (ds := ns.map .int) (lo := none) (hi := some 5) (by ktr_rel) hL1 (fun g => by rw [List.toList_toArray]; exact ints_rep hI) part_none (part_some ev_int) (by rw [List.length_map, sizeLine_eq]; omega)) (by rw [cut5, List.map_take]))))) (fun _ => rfl) trivial (fun d _ => .name _ _ _) (fun d _ => loc1 (P := True) rfl) (by rw [List.length_map, sizeLine_eq]; simp; omega) ?_ ?_
  · intro C a0 b s' outs d hd hb F'
    obtain ⟨n, hn', rfl⟩ := List.mem_map.mp hd
    refine ⟨ts_nil, fun d' e => ?_⟩
    cases e
    have hG' := G.stays (stays_trans F.keep (stays_trans hb F'.keep))
    exact evn_flat (ev_binop (d1 := .int n) (d2 := .int 100000) (ev_call (nm_boot hG' (by rfl) Boot.int) (.type _) (by kwd_rel) call_int_int) (Ev.as (ev_binop ev_int ev_int (op_pow_int (by decide) (by decide) (pow_bits (b := 10) (k := 5) (by decide) (by decide)))) (by rfl)) (op_modp (by decide)))
  intro b0 s₂ ub0 F
  have hnum : ((ns.take 5).map D.int).filterMap (fun d => match d with | .int n => some (D.int (n % 100000)) | _ => none) = (numsP ns).map .int := by
    rw [filterMap_map_some (g := D.int) (h := fun n => D.int (n % 100000)) (fun n => rfl)]; unfold numsP; rw [List.map_map]; rfl
  rw [hnum] at F
  have hnl : (numsP ns).length ≤ 5 := by unfold numsP; rw [List.length_map, List.length_take]; omega
  have hfl := figs_len ns
  have hfig : ((numsP ns).map D.int).flatMap (fun d => ((match d with | .int n => (drawn n).map D.int | _ => [] : List D)).map fun e => e) = (figsP ns).map .int := by
    unfold figsP
    generalize numsP ns = l
    clear hnum hnl F
    induction l with
    | nil => rfl
    | cons x r ih => rw [List.map_cons, List.flatMap_cons, List.flatMap_cons, ih, List.map_append]; congr 1
  refine ex_comp2 (okT := isNameOrTuple) (okT1 := isNameOrTuple) (sf := true) (fl := true) (sf1 := true) (fl1 := true) (ds := (numsP ns).map .int) (fun d => [("number", d)]) (fun d => [("figure", d)]) (fun d => match d with | .int n => (drawn n).map D.int | _ => []) (fun _ e => e) F hf.hh
    (Sr.c (st := none) (sr_list hf.hh (ev_loc F (by rfl)))) ?two fun b1 s₃ ub1 F => ?_
  case two =>
    exact {
      hfl := fun _ => rfl, hok := trivial, hT := fun d _ => .name _ _ _, hloc := fun d _ => loc1 (P := True) rfl
      hz := by rw [hfig, List.length_map, sizeLine_eq]; omega
      hfl1 := fun _ => rfl, hok1 := trivial, hT1 := fun d _ e _ => .name _ _ _, hloc1 := fun d _ e _ => loc1 (P := True) rfl
      hap := fun d _ e _ p hp => by simp only [List.mem_cons, List.not_mem_nil, or_false] at hp; subst hp; rfl
      hcell := rfl, hkind := rfl, hempty := rfl
      inner := fun C a0 b s' outs d hd hb F' => by
        obtain ⟨n, hn', rfl⟩ := List.mem_map.mp hd
        have hG' := G.stays (stays_trans ub0.2 (stays_trans F.keep (stays_trans hb F'.keep)))
        exact sr_new hf.hh (evn_fn (nm_glob (v := .ref 121) hG' (by rfl)) (.fn (hG'.X 121 _ (by rfl)) (by rfl)) (by kwd_rel) fn_drawn hG' (hf.deeper.le (by decide)))
      each := fun C a0 b s' outs d e hd he hb F' => by
        obtain ⟨n, hn', rfl⟩ := List.mem_map.mp hd
        obtain ⟨x, hx, rfl⟩ := List.mem_map.mp he
        exact evn_flat (by ktr_rel)
      hs1 := fun C v => rfl
      hclos := rfl, hnames := rfl }
  rw [hfig] at F
  have hwl := whole_len ns
  with_reducible refine ex_assign (d := .bytes (byteArr (wholeP ns))) F ?he (fun s₄ F => ?_) ?h1 ?h2 ?h3
  case h1 => rfl
  case h2 => rfl
  case h3 => rfl
  case he =>
    have hG' := G.stays (stays_trans ub0.2 (stays_trans ub1.2 F.keep))
    exact ev_fn hG' (hf.deeper.le (by decide)) (fn_octets (fs := figsP ns ++ [1, 62, 2, 63, 4, 62, 62, 63]) (by rw [List.length_append]; simp; omega))
      (evl_cons (Ev.as (ev_binop (d1 := .lst ((figsP ns).map .int)) (d2 := .lst ([1, 62, 2, 63, 4, 62, 62, 63].map .int)) (ev_loc F (by rfl)) (ev_list (by kwd_rel) (by show 8 ≤ sizeLine; decide)) (op_add_list (by rw [List.length_map, List.length_map, sizeLine_eq]; simp; omega))) (by rw [List.map_append])) evl_nil)
  obtain ⟨g, ug, F⟩ := F.settle
  have hG0 : ∀ {c s' : Shared}, Up g c → c.heap.StaysIn s'.heap → Gr (KK3 w) mg mb s'.heap := fun u st => G.stays (stays_trans ub0.2 (stays_trans ub1.2 (stays_trans ug.2 (stays_trans u.2 st))))
  let V : Vars := [("whole", (true, .bytes (byteArr (wholeP ns)))), ("numbers", (true, .lst ((numsP ns).map .int)))]
  have FV := F.sub (vars' := V) (.cons rfl (.cons rfl .nil))
  with_reducible refine ex_for (fl := false) (ds := enumD [.str "=,", .str ",=", .str "=\"", .str "\"="]) (okT := isTupleT) (sf := false) (st := none) (fun i vars own => vars = V ∧ own = none) (bs2 "k" "pair") FV ?hh ?src (.inl rfl) (fun q => ?ff) ?ok ?hT ?hsto ?start ?turn ?done ?hs
  case src => exact sr_enumT hf.hh (nm_boot (hG0 (.refl _) FV.keep) (by rfl) Boot.enumerate) (ds := [.str "=,", .str ",=", .str "=\"", .str "\"="]) (ev_tuple (by kwd_rel) (by show 4 ≤ sizeLine; decide))
  case hh => exact hf.hh
  case ff => cases q
  case ok => trivial
  case start => exact ⟨rfl, rfl⟩
  case hs => intro x; rfl
  case hT =>
    intro d hd
    obtain ⟨j, d0, _, rfl⟩ := enumD_mem hd
    exact .pair _ _ _ _ _ _ _ _
  case hsto =>
    rintro i vars' own' ⟨rfl, rfl⟩ d hd
    obtain ⟨j, d0, _, rfl⟩ := enumD_mem hd
    rfl
  case done =>
    rintro g1 s₂ vars' own' ug1 ⟨rfl, rfl⟩ F
    exact ex_return F ev_bool fun v s' F r => by
      cases r
      exact k _ (F.keepsUp (ub0.trans (ub1.trans (ug.trans ug1))))
  rintro i d g1 s₂ vars' own' hd ug1 ⟨rfl, rfl⟩ F
  obtain ⟨kk, pair, eq, comma, q, rfl, hkk, P, M⟩ : ∃ (kk : Int) (pair : Str) (eq comma q : Int), d = .tup [.int kk, .str pair] ∧ (0 ≤ kk ∧ kk < 4) ∧ PairOk pair eq comma q ∧ Math01 pair eq comma q (rowA ns kk) := by
    match i, hd with
    | 0, hd => cases hd; exact ⟨_, _, _, _, _, rfl, ⟨by decide, by decide⟩, pair0, M.m0⟩
    | 1, hd => cases hd; exact ⟨_, _, _, _, _, rfl, ⟨by decide, by decide⟩, pair1, M.m1⟩
    | 2, hd => cases hd; exact ⟨_, _, _, _, _, rfl, ⟨by decide, by decide⟩, pair2, M.m2⟩
    | 3, hd => cases hd; exact ⟨_, _, _, _, _, rfl, ⟨by decide, by decide⟩, pair3, M.m3⟩
    | i + 4, hd => cases hd
  have hG1 : ∀ {c s' : Shared}, Up g1 c → c.heap.StaysIn s'.heap → Gr (KK3 w) mg mb s'.heap := fun u st => hG0 (ug1.trans u) st
  have hrs := rowA_size ns kk
  obtain ⟨ix, rest, hocc, hix⟩ := P.occ
  have hpl := P.len
  generalize hrow : rowA ns kk = row at M hrs
  refine ex_assign F (ev_meth (by ktr_rel) meth_encode (by kwd_rel) (call_encode P.ascii (by rw [sizeLine_eq, hpl]; omega))) fun s₃ F => ?_
  refine ex_assign (d := .str (sgBase ++ pair)) F (Ev.as (ev_binop (d1 := .str sgBase) ev_str (by ktr_rel) (op_add_str (by rw [sizeLine_eq, hpl]; decide))) (by rfl)) fun s₄ F => ?_
  refine ex_assign (d := .int eq) F (Ev.as (ev_binop ev_int (ev_meth (by ktr_rel) meth_index (by kwd_rel) (call_index hocc)) op_add_int) (by rw [hix])) fun s₅ F => ?_
  refine ex_assign (d := .bytes row) F (Ev.as (ev_slice_bytes (lo := none) (hi := some (((byteArr (wholeP ns)).size : Int) - (kk + (numsP ns).sum) % 3)) (by ktr_rel) part_none (part_some (ev_binop (ev_call (nm_boot (hG1 (.refl _) F.keep) (by rfl) Boot.len) (.builtin _) (by kwd_rel) (call_len_bytes (by rw [sizeLine_eq, byteArr_size]; omega)))
    (ev_binop (d1 := .int (kk + (numsP ns).sum)) (ev_binop (by ktr_rel) (ev_call (nm_boot (hG1 (.refl _) F.keep) (by rfl) PyProof.Rows.boot_sum) (.builtin _) (by kwd_rel) (call_sum_ints hf.hh)) op_add_int) ev_int (op_modp (by decide))) op_sub_int)) (by rw [sizeLine_eq, byteArr_size]; omega)) (by rw [← hrow]; rfl)) fun s₆ F => ?_
  have hol := octs_len row
  have hsl := shown_len (octs row) eq (by omega)
  have hcomma : (if Txt.contains pair "," = true then 125 - eq else -1) = comma := P.hc
  have hquote : (if Txt.contains pair "\"" = true then 125 - eq else -1) = q := P.hq
  have hinsg := M.insg
  have hMt := M.told
  have hMh := M.http
  generalize hSH : shownP (octs row) eq = SH at hsl hinsg hMt hMh
  generalize hPC : piecesP comma SH = PC at hMt hMh
  refine ex_assign (d := .lst (PC.map FD)) F (Ev.as (ev_fn (hG1 (.refl _) F.keep) (hf.deeper.le (by decide)) (fn_pieces (fs := SH) (c := comma) (by omega)) (evl_cons (Ev.as (ev_fn (hG1 (.refl _) F.keep) (hf.deeper.le (by decide)) (FnF.fn (fn_shown (b := row) (eq := eq) (by omega))) (by kwd_rel)) (by rw [hSH]))
    (evl_cons (ev_ifexp (c := Txt.contains pair ",") (d := .int comma) (tr_cmp ev_str (by ktr_rel) cmp_in_str) (fun e => Ev.as (ev_binop ev_int (by ktr_rel) op_sub_int) (by rw [← hcomma, if_pos e])) (fun e => Ev.as (ev_neg ev_int) (by rw [← hcomma, if_neg (by rw [e]; simp)]))) evl_nil))) (by rw [hPC])) fun s₇ F => ?_
  have hPl : PC.length ≤ 61 := by
    rw [← hPC]
    have h1 := allP_len comma SH
    have h2 := endsP_len comma SH
    unfold piecesP
    split
    · rw [List.length_dropLast]; omega
    · omega
  have hPm : ∀ p ∈ PC, p.length ≤ 60 ∧ InSg (sgBase ++ pair) p := fun p hp => by
    have hp' : p ∈ allP comma SH := by
      rw [← hPC] at hp
      unfold piecesP at hp
      split at hp
      · exact (List.dropLast_sublist _).subset hp
      · exact hp
    unfold allP at hp'
    obtain ⟨z, _, rfl⟩ := List.mem_map.mp hp'
    refine ⟨?_, fun f hf => hinsg f ?_⟩
    · unfold cut; rw [List.length_take, List.length_drop]; omega
    · unfold cut at hf
      exact List.mem_of_mem_drop (List.mem_of_mem_take hf)
  have hzP : (PC.map FD).length ≤ sizeLine := by rw [List.length_map, sizeLine_eq]; omega
  -- dues
  let fU : D → Option D := fun d => match d with | .lst a => some (SD (dueP eq q (unInts a))) | _ => none
  have hfU : ∀ p, fU (FD p) = some (SD (dueP eq q p)) := fun p => by
    show some (SD (dueP eq q (unInts (p.map .int)))) = _
    rw [unInts_map]
  refine ex_assign (d := .lst ((PC.map (dueP eq q)).map SD)) F ?he2 fun s₈ F => ?_
  case he2 =>
    refine EvFL.ev (EvFL.as (d := (PC.map FD).filterMap fU) ?_ (by rw [filterMap_map_some hfU, List.map_map]; rfl))
    refine evfl_comp (fl := true) (ds := PC.map FD) (fun d => [("piece", d)]) fU F.vs hf.hh (Sr.c (st := none) (sr_list hf.hh (ev_loc F (by rfl)))) (fun _ => rfl) trivial (fun d _ => .name _ _ _) (fun d _ => loc1 (P := True) rfl) hzP ?_
    intro C a0 b s' outs d hd hb F'
    obtain ⟨p, hp, rfl⟩ := List.mem_map.mp hd
    rw [hfU]
    refine ⟨ts_nil, fun d' e => ?_⟩
    cases e
    have hG' := hG1 (.refl _) (stays_trans F.keep (stays_trans hb F'.keep))
    exact evn_fn (nm_glob (v := .ref 143) hG' (by rfl)) (.fn (hG'.X 143 _ (by rfl)) (by rfl)) (evl_cons (d := .lst (p.map .int)) (ev_loc F' (by rfl)) (evl_cons (ev_loc F' (by rfl)) (evl_cons (ev_ifexp (c := Txt.contains pair "\"") (d := .int q) (tr_cmp ev_str (ev_loc F' (by rfl)) cmp_in_str) (fun e => Ev.as (ev_binop ev_int (ev_loc F' (by rfl)) op_sub_int) (by rw [← hquote, if_pos e])) (fun e => Ev.as (ev_neg ev_int) (by rw [← hquote, if_neg (by rw [e]; simp)]))) evl_nil)))
      (fn_due (by have := (hPm p hp).1; omega)) hG' (hf.deeper.le (by decide))
  -- items
  have hsgl : (sgBase ++ pair : Str).length = 64 := by rw [str_len_append, hpl]; rfl
  have hencl : (encA (asBytes pair) row).size ≤ 60 := by
    unfold encA
    rw [trans_size, byteArr_size]
    have := b2a_len (octs row)
    omega
  have hal : (asBytes pair).size = 2 := by unfold asBytes; rw [Array.size_map]; exact hpl
  have htx : ∀ (x : List Int), (textS (sgBase ++ pair) x).length = x.length := fun x => by
    show ((x.map fun f => (sgBase ++ pair : Str).cps.getD f.toNat 0).toArray).size = _
    simp
  refine ex_assign (d := .lst ((PC.map (textS (sgBase ++ pair))).map .str)) F (Ev.as (ev_fn (hG1 (.refl _) F.keep) (hf.deeper.le (by decide)) (fn_phl (x := asText (encA (asBytes pair) row)) (by show ((encA (asBytes pair) row).map (·.toNat)).size ≤ _; rw [Array.size_map]; omega))
    (evl_cons (ev_meth (ev_fn (hG1 (.refl _) F.keep) (hf.deeper.le (by decide)) (fn_b64encode (b := row) (alt := asBytes pair) (by omega) hal) (by kwd_rel)) meth_decode (by kwd_rel) (call_decode M.ascii (by rw [sizeLine_eq]; omega))) evl_nil)) (by rw [hMh])) fun s₉ F => ?_
  have hzT : (PC.map (textS (sgBase ++ pair))).length ≤ 61 := by rw [List.length_map]; exact hPl
  let fT : D → Option D := fun d => match d with | .lst a => some (.str (textS (sgBase ++ pair) (unInts a))) | _ => none
  have hfT : ∀ p, fT (FD p) = some (.str (textS (sgBase ++ pair) p)) := fun p => by
    show some (D.str (textS (sgBase ++ pair) (unInts (p.map .int)))) = _
    rw [unInts_map]
  refine ex_if (b := false) F (tr_cmp (ev_loc F (by rfl)) (EvFL.ev (EvFL.as (d := (PC.map FD).filterMap fT) ?ct (by rw [filterMap_map_some hfT, List.map_map]; rfl))) (cmp_ne_self (n := 1) (hf.deeper.cl (by decide)) (good_strs (PC.map (textS (sgBase ++ pair)))) rfl)) (fun s₄ F e => by cases e) (fun s₁₀ F e => ex_nil ?_)
  case ct =>
    refine evfl_comp (fl := true) (ds := PC.map FD) (fun d => [("piece", d)]) fT F.vs hf.hh (Sr.c (st := none) (sr_list hf.hh (ev_loc F (by rfl)))) (fun _ => rfl) trivial (fun d _ => .name _ _ _) (fun d _ => loc1 (P := True) rfl) hzP ?_
    intro C a0 b s' outs d hd hb F'
    obtain ⟨p, hp, rfl⟩ := List.mem_map.mp hd
    rw [hfT]
    refine ⟨ts_nil, fun d' e => ?_⟩
    cases e
    have hG' := hG1 (.refl _) (stays_trans F.keep (stays_trans hb F'.keep))
    have hp2 := hPm p hp
    exact evn_flat (ev_fn hG' (hf.deeper.le (by decide)) (fn_text (by omega) (by omega) hp2.2) (evl_cons (d := .lst (p.map .int)) (ev_loc F' (by rfl)) (by kwd_rel)))
  -- every
  have hzD : ((PC.map (dueP eq q)).map SD).length ≤ sizeLine := by rw [List.length_map, List.length_map, sizeLine_eq]; omega
  have hlD : ((PC.map (dueP eq q)).map SD).length = PC.length := by rw [List.length_map, List.length_map]
  refine ex_comp (fl := false) (ds := enumD ((PC.map (dueP eq q)).map SD)) (bs2 "place" "due") fE F hf.hh (Sr.c (st := none) (by exact sr_enum hf.hh (nm_boot (hG1 (.refl _) F.keep) (by rfl) Boot.enumerate) (ev_loc F (by rfl)))) (fun q => by cases q) trivial (fun d hd => ?_) (fun d hd => ?_) (by rw [enumD_len]; exact hzD) ?_ ?_
  · obtain ⟨j, d0, _, rfl⟩ := enumD_mem hd
    exact .pair _ _ _ _ _ _ _ _
  · obtain ⟨j, d0, _, rfl⟩ := enumD_mem hd
    exact loc2 rfl rfl
  · intro C a0 b s' outs d hd hb F'
    obtain ⟨j, d0, hj, rfl⟩ := enumD_mem hd
    refine ⟨ts_nil, fun d' e => ?_⟩
    cases e; exact evn_flat (by ktr_rel)
  intro b1 s₁₁ ub1 F
  rw [every_eq, hlD] at F
  have hzR : ((List.range PC.length).map fun (i : Nat) => D.int (i : Int)).length ≤ sizeLine := by rw [List.length_map, List.length_range, sizeLine_eq]; omega
  have hisS : ∀ {x : Str ⊕ PP} {A' : Around} {h' : Heap}, Gr (KK3 w) mg mb h' → CallD prog w A' h' (.builtin "isinstance") [SD x, .ty "str"] (.bool x.isLeft) := fun {x A' h'} G' => by
    cases x with
    | inl s => exact call_isinstance1 (d := .str s) (b := true) G' (kit_str w)
    | inr p => exact call_isinstance1 (d := PD p) (b := false) G' (kit_tup w)
  have hDU : ∀ i, i < PC.length → (PC.map (dueP eq q))[i]? = some ((PC.map (dueP eq q)).getD i (.inl "")) := fun i hi => by
    rw [List.getElem?_eq_getElem (by rw [List.length_map]; exact hi)]
    simp [List.getD_eq_getElem?_getD, List.getElem?_eq_getElem hi]
  let LD := PC.map (dueP eq q)
  let isS : List Nat := (List.range PC.length).filter fun i => !(LD.getD i (.inl "")).isLeft
  let isA : List Nat := (List.range PC.length).filter fun i => (LD.getD i (.inl "")).isLeft
  have hSeq : ((List.range PC.length).map fun (i : Nat) => D.int (i : Int)).filterMap (fS LD) = isS.map fun (i : Nat) => D.int (i : Int) := nats_filter (fun i => by
    show (if (LD.getD (i : Int).toNat (.inl "")).isLeft = true then none else some (D.int (i : Int))) = _
    rw [Int.toNat_natCast]
    cases (LD.getD i (.inl "")).isLeft <;> rfl) _
  have hAeq : ((List.range PC.length).map fun (i : Nat) => D.int (i : Int)).filterMap (fA LD) = isA.map fun (i : Nat) => D.lst [D.int (i : Int)] := nats_filter (fun i => by
    show (if (LD.getD (i : Int).toNat (.inl "")).isLeft = true then some (D.lst [D.int (i : Int)]) else none) = _
    rw [Int.toNat_natCast]) _
  have hSl : isS.length ≤ 61 := Nat.le_trans (List.length_filter_le _ _) (by rw [List.length_range]; exact hPl)
  have hAl : isA.length ≤ 61 := Nat.le_trans (List.length_filter_le _ _) (by rw [List.length_range]; exact hPl)
  -- sound
  refine ex_comp (fl := true) (ds := (List.range PC.length).map fun (i : Nat) => D.int (i : Int)) (fun d => [("place", d)]) (fS LD) F hf.hh (Sr.c (st := none) (sr_list hf.hh (ev_loc F (by rfl)))) (fun _ => rfl) trivial (fun d _ => .name _ _ _) (fun d _ => loc1 (P := True) rfl) hzR ?_ ?_
  · intro C a0 b s' outs d hd hb F'
    obtain ⟨i, hi, rfl⟩ := List.mem_map.mp hd
    rw [List.mem_range] at hi
    have hG' := hG1 ub1 (stays_trans F.keep (stays_trans hb F'.keep))
    have hit : ((PC.map (dueP eq q)).map SD)[(i : Int).toNat]? = some (SD (LD.getD i (.inl ""))) := by rw [Int.toNat_natCast, List.getElem?_map, hDU i hi]; rfl
    have hfs : fS LD (.int (i : Nat)) = if (LD.getD i (.inl "")).isLeft = true then none else some (.int (i : Nat)) := by
      show (if (LD.getD (i : Int).toNat (.inl "")).isLeft = true then none else some (D.int (i : Int))) = _
      rw [Int.toNat_natCast]
    rw [hfs]
    refine ⟨ts_one (Tr.as (tr_not (tr_val (ev_call (nm_boot hG' (by rfl) Boot.isinstance) (.builtin _) (evl_cons (d := SD (LD.getD i (.inl ""))) (ev_item (d1 := .lst ((PC.map (dueP eq q)).map SD)) (by ktr_rel) (by ktr_rel) (op_item_list (by omega) (by omega) hit)) (evl_cons (ev_type (nm_boot hG' (by rfl) Boot.str)) evl_nil)) (hisS hG')) truth_bool)) (by cases LD.getD i (.inl "") <;> rfl)), fun d' e => ?_⟩
    split at e
    · cases e
    · cases e; exact evn_flat (by ktr_rel)
  intro b2 s₁₂ ub2 F
  rw [hSeq] at F
  -- alone
  refine ex_comp (fl := true) (ds := (List.range PC.length).map fun (i : Nat) => D.int (i : Int)) (fun d => [("place", d)]) (fA LD) F hf.hh (Sr.c (st := none) (sr_list hf.hh (ev_loc F (by rfl)))) (fun _ => rfl) trivial (fun d _ => .name _ _ _) (fun d _ => loc1 (P := True) rfl) hzR ?_ ?_
  · intro C a0 b s' outs d hd hb F'
    obtain ⟨i, hi, rfl⟩ := List.mem_map.mp hd
    rw [List.mem_range] at hi
    have hG' := hG1 (ub1.trans ub2) (stays_trans F.keep (stays_trans hb F'.keep))
    have hit : ((PC.map (dueP eq q)).map SD)[(i : Int).toNat]? = some (SD (LD.getD i (.inl ""))) := by rw [Int.toNat_natCast, List.getElem?_map, hDU i hi]; rfl
    have hfs : fA LD (.int (i : Nat)) = if (LD.getD i (.inl "")).isLeft = true then some (.lst [.int (i : Nat)]) else none := by
      show (if (LD.getD (i : Int).toNat (.inl "")).isLeft = true then some (D.lst [D.int (i : Int)]) else none) = _
      rw [Int.toNat_natCast]
    rw [hfs]
    refine ⟨ts_one (Tr.as (tr_val (ev_call (nm_boot hG' (by rfl) Boot.isinstance) (.builtin _) (evl_cons (d := SD (LD.getD i (.inl ""))) (ev_item (d1 := .lst ((PC.map (dueP eq q)).map SD)) (by ktr_rel) (by ktr_rel) (op_item_list (by omega) (by omega) hit)) (evl_cons (ev_type (nm_boot hG' (by rfl) Boot.str)) evl_nil)) (hisS hG')) truth_bool) (by cases LD.getD i (.inl "") <;> rfl)), fun d' e => ?_⟩
    split at e
    · cases e; exact evn_list (evln_cons (evn_flat (by ktr_rel)) evln_nil) (by show 1 ≤ sizeLine; decide)
    · cases e
  intro b3 s₁₃ ub3 F
  rw [hAeq] at F
  obtain ⟨g3, ug3, F⟩ := F.settle
  have ubg : Up g1 g3 := ub1.trans (ub2.trans (ub3.trans ug3))
  let V2 : Vars := [("items", (true, .lst ((PC.map (textS (sgBase ++ pair))).map .str))), ("dues", (true, .lst ((PC.map (dueP eq q)).map SD))), ("signs", (true, .str (sgBase ++ pair))), ("altchars", (true, .bytes (asBytes pair))), ("sound", (true, natsD isS)),
    ("whole", (true, .bytes (byteArr (wholeP ns)))), ("numbers", (true, .lst ((numsP ns).map .int)))]
  let LL : List (List Nat) := isA.map (fun i => [i]) ++ [List.range PC.length, isS.reverse, isS]
  have FV2 := F.sub (vars' := V2) (.cons rfl (.cons rfl (.cons rfl (.cons rfl (.cons rfl (.cons rfl (.cons rfl .nil)))))))
  have hLL : ∀ is ∈ LL, (∀ i ∈ is, i < PC.length) ∧ is.length ≤ 61 := fun is his => by
    have hr : ∀ {p : Nat → Bool}, ∀ j ∈ (List.range PC.length).filter p, j < PC.length := fun j hj => List.mem_range.mp (List.mem_filter.mp hj).1
    rcases List.mem_append.mp his with h | h
    · obtain ⟨i, hi, rfl⟩ := List.mem_map.mp h
      exact ⟨fun j hj => by rw [List.mem_singleton.mp hj]; exact hr i hi, by simp⟩
    · simp only [List.mem_cons, List.not_mem_nil, or_false] at h
      rcases h with rfl | rfl | rfl
      · exact ⟨fun j hj => List.mem_range.mp hj, by rw [List.length_range]; exact hPl⟩
      · exact ⟨fun j hj => hr j (List.mem_reverse.mp hj), by rw [List.length_reverse]; exact hSl⟩
      · exact ⟨fun j hj => hr j hj, hSl⟩
  have hgP : ∀ i, i < PC.length → PC[i]? = some (PC.getD i []) := fun i hi => by
    rw [List.getElem?_eq_getElem hi]
    simp [List.getD_eq_getElem?_getD, List.getElem?_eq_getElem hi]
  have hgT : ∀ i, i < PC.length → fG (PC.map (textS (sgBase ++ pair))) (.int (i : Nat)) = some (.str (textS (sgBase ++ pair) (PC.getD i []))) := fun i hi => by
    show some (D.str ((PC.map (textS (sgBase ++ pair))).getD (i : Int).toNat "")) = _
    rw [Int.toNat_natCast, List.getD_eq_getElem?_getD, List.getElem?_map, hgP i hi]; rfl
  have hgH : ∀ i, i < PC.length → fH LD (.int (i : Nat)) = some (SD (dueP eq q (PC.getD i []))) := fun i hi => by
    show some (SD ((PC.map (dueP eq q)).getD (i : Int).toNat (.inl ""))) = _
    rw [Int.toNat_natCast, List.getD_eq_getElem?_getD, List.getElem?_map, hgP i hi]; rfl
  have fm : ∀ {f : D → Option D} {h : Nat → D} (js : List Nat), (∀ i ∈ js, f (.int (i : Nat)) = some (h i)) → (js.map fun (i : Nat) => D.int (i : Int)).filterMap f = js.map h := by
    intro f h js hjs
    induction js with
    | nil => rfl
    | cons j r ih => rw [List.map_cons, List.filterMap_cons, hjs j (.head _), List.map_cons]; simp only; rw [ih fun i hi => hjs i (.tail _ hi)]
  -- [items[place] for place in X], [dues[place] for place in X]
  let QS : List Nat → List (List Int) := fun js => js.map fun i => PC.getD i []
  have hQS : ∀ js, (∀ i ∈ js, i < PC.length) → ∀ x ∈ QS js, x ∈ PC := fun js hjs x hx => by
    obtain ⟨i, hi, rfl⟩ := List.mem_map.mp hx
    exact List.mem_of_getElem? (hgP i (hjs i hi))
  have evT : ∀ (js : List Nat), (∀ i ∈ js, i < PC.length) → (js.map fun (i : Nat) => D.int (i : Int)).filterMap (fG (PC.map (textS (sgBase ++ pair)))) = ((QS js).map (textS (sgBase ++ pair))).map .str := fun js hjs => by
    rw [fm js fun i hi => hgT i (hjs i hi)]; simp only [QS, List.map_map]; rfl
  have evH : ∀ (js : List Nat), (∀ i ∈ js, i < PC.length) → (js.map fun (i : Nat) => D.int (i : Int)).filterMap (fH LD) = ((QS js).map (dueP eq q)).map SD := fun js hjs => by
    rw [fm js fun i hi => hgH i (hjs i hi)]; simp only [QS, List.map_map]; rfl
  have hPPOk : ∀ js, (∀ i ∈ js, i < PC.length) → ∀ p, .inr p ∈ (QS js).map (dueP eq q) → PPOk (sgBase ++ pair) p := fun js hjs p hp => by
    obtain ⟨x, hx, hd⟩ := List.mem_map.mp hp
    have h1 := due_ok hd
    have h2 := hPm x (hQS js hjs x hx)
    exact ⟨⟨fun f hf => h2.2 f (h1.1 f hf), by omega⟩, fun f hf => h2.2 f (h1.2.1 f hf), by omega⟩
  refine ex_for (fl := true) (ds := LL.map natsD) (okT := isNameOrTuple) (sf := true) (st := none) (fun i vars own => vars = V2 ∧ own = none) (fun d => [("places", d)]) FV2 hf.hh ?src2 (.inl rfl) (fun _ => rfl) trivial (fun d _ => .name _ _ _) ?hsto2 ⟨rfl, rfl⟩ ?turn2 ?done2
  case hsto2 =>
    rintro i vars' own' ⟨rfl, rfl⟩ d _
    rfl
  case src2 =>
    refine sr_list hf.hh (Ev.as (d := .lst ((isA.map fun (i : Nat) => .lst [.int (i : Int)]) ++ [natsD (List.range PC.length), .lst (isS.map fun (i : Nat) => D.int (i : Int)).reverse, natsD isS])) ?_ ?_)
    · exact ev_binop (d1 := .lst (isA.map fun (i : Nat) => .lst [.int (i : Int)])) (d2 := .lst [natsD (List.range PC.length), .lst (isS.map fun (i : Nat) => D.int (i : Int)).reverse, natsD isS]) (ev_loc F (by rfl))
        (ev_list (evl_cons (ev_loc F (by rfl)) (evl_cons (EvFL.ev (evfl_rev (ev_loc F (by rfl)) (ev_neg ev_int) (by rw [List.length_map, sizeLine_eq]; omega))) (evl_cons (ev_loc F (by rfl)) evl_nil))) (by show 3 ≤ sizeLine; decide)) (op_add_list (by rw [List.length_map, sizeLine_eq]; simp; omega))
    · have hrev : natsD isS.reverse = .lst (isS.map fun (i : Nat) => D.int (i : Int)).reverse := by show D.lst _ = _; rw [List.map_reverse]
      have hLm : LL.map natsD = (isA.map fun i => natsD [i]) ++ [natsD (List.range PC.length), natsD isS.reverse, natsD isS] := by
        simp only [LL, List.map_append, List.map_map, List.map_cons, List.map_nil]; rfl
      rw [hLm, hrev]; rfl
  case turn2 =>
    rintro i d g4 s₈ vars' own' hd ug4 ⟨rfl, rfl⟩ F
    obtain ⟨is, his, rfl⟩ : ∃ is, is ∈ LL ∧ d = natsD is := by
      rw [List.getElem?_map] at hd
      cases hx : LL[i]? with
      | none => rw [hx] at hd; cases hd
      | some is => rw [hx] at hd; cases hd; exact ⟨is, List.mem_of_getElem? hx, rfl⟩
    obtain ⟨hi1, hi2⟩ := hLL is his
    have ub4 : Up g1 g4 := ubg.trans ug4
    have hzi : (is.map fun (i : Nat) => D.int (i : Int)).length ≤ sizeLine := by rw [List.length_map, sizeLine_eq]; omega
    have hql : (QS is).length = is.length := List.length_map _
    refine ex_told (items := (QS is).map (textS (sgBase ++ pair))) F (hf.deeper.le (by decide)) (Around.frames_deeper hfr) rfl rfl (hG1 ub4 (stays_refl _)) (nm_glob (v := .ref 165) (hG1 ub4 F.keep) (by rfl)) ?aa (by rw [List.length_map]; omega) (fun x hx => ?tl) fun g5 s₉ ub5 F => ?_
    case tl =>
      obtain ⟨p, hp, rfl⟩ := List.mem_map.mp hx
      rw [htx]
      have := (hPm p (hQS is hi1 p hp)).1; omega
    case aa =>
      refine evl_cons (EvFL.ev (EvFL.as (d := (is.map fun (i : Nat) => D.int (i : Int)).filterMap (fG (PC.map (textS (sgBase ++ pair))))) ?_ (evT is hi1))) evl_nil
      refine evfl_comp (fl := true) (ds := is.map fun (i : Nat) => D.int (i : Int)) (fun d => [("place", d)]) (fG (PC.map (textS (sgBase ++ pair)))) F.vs hf.hh (Sr.c (st := none) (sr_list hf.hh (ev_loc F (by rfl)))) (fun _ => rfl) trivial (fun d _ => .name _ _ _) (fun d _ => loc1 (P := True) rfl) hzi ?_
      intro C a0 b s' outs d hd hb F'
      obtain ⟨i, hi, rfl⟩ := List.mem_map.mp hd
      rw [hgT i (hi1 i hi)]
      refine ⟨ts_nil, fun d' e => ?_⟩
      cases e
      refine evn_flat (ev_item (d1 := .lst ((PC.map (textS (sgBase ++ pair))).map .str)) (by ktr_rel) (by ktr_rel) (op_item_list (by omega) (by have := hi1 i hi; omega) ?_))
      rw [Int.toNat_natCast, List.getElem?_map, List.getElem?_map, hgP i (hi1 i hi)]; rfl
    rw [(hMt (QS is) (hQS is hi1)).eq] at F
    refine ex_if (b := false) F (tr_cmp (ev_loc F (by rfl)) (ev_fn (hG1 (ub4.trans ub5) F.keep) (hf.deeper.le (by decide)) (fn_known (dues := (QS is).map (dueP eq q)) (sg := sgBase ++ pair) (by rw [List.length_map]; omega) (by omega) (hPPOk is hi1)) (evl_cons (EvFL.ev (EvFL.as (d := (is.map fun (i : Nat) => D.int (i : Int)).filterMap (fH LD)) ?cd (evH is hi1))) (evl_cons (ev_loc F (by rfl)) evl_nil)))
      (cmp_ne_self (n := 2) (d := KD (knownS (sgBase ++ pair) (merged ((QS is).map (dueP eq q)) []))) (hf.deeper.cl (by decide)) (good_KD _) (by cases merged ((QS is).map (dueP eq q)) [] <;> rfl))) (fun s₄ F e => by cases e) (fun s₄ F e => ex_nil (ex_nil ?_))
    case cd =>
      refine evfl_comp (fl := true) (ds := is.map fun (i : Nat) => D.int (i : Int)) (fun d => [("place", d)]) (fH LD) F.vs hf.hh (Sr.c (st := none) (sr_list hf.hh (ev_loc F (by rfl)))) (fun _ => rfl) trivial (fun d _ => .name _ _ _) (fun d _ => loc1 (P := True) rfl) hzi ?_
      intro C a0 b s' outs d hd hb F'
      obtain ⟨i, hi, rfl⟩ := List.mem_map.mp hd
      rw [hgH i (hi1 i hi)]
      refine ⟨ts_nil, fun d' e => ?_⟩
      cases e
      refine evn_base (evb_item_list (ds := (PC.map (dueP eq q)).map SD) (evb_var F' (by rfl)) F'.keep (by ktr_rel) (by omega) (by have := hi1 i hi; omega) ?_) F'.keep
      rw [Int.toNat_natCast, List.getElem?_map, List.getElem?_map, hgP i (hi1 i hi)]; rfl
    exact ⟨g5, _, _, ub5, ⟨rfl, rfl⟩, F.sub (.cons rfl (.cons rfl (.cons rfl (.cons rfl (.cons rfl (.cons rfl (.cons rfl .nil)))))))⟩
  case done2 =>
  rintro g4 s₁₄ vars' own' ug4 ⟨rfl, rfl⟩ F
  have ub4 : Up g1 g4 := ubg.trans ug4
  have hisv : ∀ i ∈ isS, i < PC.length := fun j hj => List.mem_range.mp (List.mem_filter.mp hj).1
  obtain ⟨ps, hps⟩ : ∃ ps, merged ((QS isS).map (dueP eq q)) [] = .inr ps := all_merged (fun x hx => by
    obtain ⟨y, hy, rfl⟩ := List.mem_map.mp hx
    obtain ⟨i, hi, rfl⟩ := List.mem_map.mp hy
    have h1 := (List.mem_filter.mp hi).2
    have h2 := hDU i (hisv i hi)
    rw [List.getElem?_map, hgP i (hisv i hi)] at h2
    have h3 : dueP eq q (PC.getD i []) = (PC.map (dueP eq q)).getD i (.inl "") := Option.some.inj h2
    rw [h3]
    have h1' : (!((PC.map (dueP eq q)).getD i (.inl "")).isLeft) = true := h1
    exact (Bool.not_eq_true' _).mp h1') []
  have hkq : kqGo ((QS isS).map (textS (sgBase ++ pair))) [] = .inr (ps.map fun p => (textS (sgBase ++ pair) p.1, textS (sgBase ++ pair) p.2)) := by
    have h1 := hMt (QS isS) (hQS isS hisv)
    rw [hps] at h1
    generalize kqGo ((QS isS).map (textS (sgBase ++ pair))) [] = x at h1
    cases h1; rfl
  have hwt : wt ps ≤ 60 + 6 * 61 := by
    have h1 := wt_merged hps
    have h2 : ((QS isS).map List.length).sum ≤ (PC.map List.length).sum := by
      have htot : ∀ (l : List Nat) (n : Nat), l.Pairwise (· < ·) → (∀ i ∈ l, n ≤ i ∧ i < PC.length) → ((l.map fun i => PC.getD i []).map List.length).sum ≤ ((PC.drop n).map List.length).sum := by
        intro l
        induction l with
        | nil => intro n _ _; simp
        | cons x r ih =>
          intro n hp hb
          obtain ⟨h1, h2⟩ := List.pairwise_cons.mp hp
          have hx := hb x (.head _)
          have ih' := ih (x + 1) h2 fun i hi => ⟨h1 i hi, (hb i (.tail _ hi)).2⟩
          have hd : ((PC.drop x).map List.length).sum = (PC.getD x []).length + ((PC.drop (x + 1)).map List.length).sum := by
            rw [List.drop_eq_getElem_cons hx.2, List.map_cons, List.sum_cons]
            congr 1
            rw [List.getD_eq_getElem?_getD, List.getElem?_eq_getElem hx.2]; rfl
          have hm : ∀ (l : List (List Int)) (a b : Nat), a ≤ b → ((l.drop b).map List.length).sum ≤ ((l.drop a).map List.length).sum := by
            intro l a b hab
            obtain ⟨c, rfl⟩ := Nat.exists_eq_add_of_le hab
            rw [← List.drop_drop]
            generalize l.drop a = m
            induction c generalizing m with
            | zero => simp
            | succ c ihc =>
              cases m with
              | nil => simp
              | cons y t => rw [List.drop_succ_cons, List.map_cons, List.sum_cons]; have := ihc (by omega) t; omega
          have := hm PC n x hx.1
          rw [List.map_cons, List.map_cons, List.sum_cons]
          omega
      have := htot isS 0 (List.Pairwise.filter _ List.pairwise_lt_range) (fun i hi => ⟨Nat.zero_le _, hisv i hi⟩)
      rw [List.drop_zero] at this
      exact this
    have h3 : (QS isS).length ≤ 61 := by rw [show (QS isS).length = isS.length from List.length_map _]; exact hSl
    have h4 : (PC.map List.length).sum ≤ 60 := by have := M.tot; rw [hSH, hPC] at this; exact this
    have h5 : wt [] = 0 := rfl
    omega
  have hpslen : ps.length ≤ 61 := by
    have := merged_len hps
    have h3 : (QS isS).length ≤ 61 := by rw [show (QS isS).length = isS.length from List.length_map _]; exact hSl
    rw [List.length_map] at this; simp at this; omega
  have hpin : ∀ x ∈ partsP ps, InSg (sgBase ++ pair) x ∧ x.length ≤ 1000 := fun x hx => by
    obtain ⟨p, hp, h⟩ := parts_mem hx
    have hok : PPOk (sgBase ++ pair) p := by
      rcases merged_mem hps p hp with h' | h'
      · cases h'
      · exact hPPOk isS hisv p h'
    rcases h with rfl | rfl
    · exact hok.1
    · exact hok.2
  have hzi : (isS.map fun (i : Nat) => D.int (i : Int)).length ≤ sizeLine := by rw [List.length_map, sizeLine_eq]; omega
  have hqsl : (QS isS).length ≤ 61 := by rw [show (QS isS).length = isS.length from List.length_map _]; exact hSl
  -- told
  have hfm1 : (itemsD (ps.map fun p => (textS (sgBase ++ pair) p.1, textS (sgBase ++ pair) p.2))).flatMap (fun d => ((match d with | .tup l => l | _ => [] : List D)).map fun e => e) = ((partsP ps).map (textS (sgBase ++ pair))).map .str := by
    unfold itemsD partsP
    generalize ps = l
    induction l with
    | nil => rfl
    | cons p r ih => simp only [List.map_cons, List.flatMap_cons, List.map_append] at ih ⊢; rw [ih]; rfl
  have hpl2 := parts_len ps
  refine ex_comp2 (okT := isNameOrTuple) (okT1 := isNameOrTuple) (sf := true) (fl := true) (sf1 := true) (fl1 := true) (ds := itemsD (ps.map fun p => (textS (sgBase ++ pair) p.1, textS (sgBase ++ pair) p.2))) (fun d => [("both", d)]) (fun d => [("text", d)]) (fun d => match d with | .tup l => l | _ => []) (fun _ e => e) F hf.hh
    (Sr.c (st := none) (sr_list hf.hh (ev_told (items := (QS isS).map (textS (sgBase ++ pair))) F (hf.deeper.le (by decide)) (Around.frames_deeper hfr) rfl rfl (hG1 ub4 (stays_refl _)) (nm_glob (v := .ref 165) (hG1 ub4 F.keep) (by rfl)) ?aa (by rw [List.length_map]; omega) (fun x hx => ?tl) hkq))) ?two2 fun b5 s₁₅ ub5 F => ?_
  case tl =>
    obtain ⟨p, hp, rfl⟩ := List.mem_map.mp hx
    rw [htx]
    have := (hPm p (hQS isS hisv p hp)).1; omega
  case aa =>
    refine evl_cons (EvFL.ev (EvFL.as (d := (isS.map fun (i : Nat) => D.int (i : Int)).filterMap (fG (PC.map (textS (sgBase ++ pair))))) ?_ (evT isS hisv))) evl_nil
    refine evfl_comp (fl := true) (ds := isS.map fun (i : Nat) => D.int (i : Int)) (fun d => [("place", d)]) (fG (PC.map (textS (sgBase ++ pair)))) F.vs hf.hh (Sr.c (st := none) (sr_list hf.hh (ev_loc F (by rfl)))) (fun _ => rfl) trivial (fun d _ => .name _ _ _) (fun d _ => loc1 (P := True) rfl) hzi ?_
    intro C a0 b s' outs d hd hb F'
    obtain ⟨i, hi, rfl⟩ := List.mem_map.mp hd
    rw [hgT i (hisv i hi)]
    refine ⟨ts_nil, fun d' e => ?_⟩
    cases e
    refine evn_flat (ev_item (d1 := .lst ((PC.map (textS (sgBase ++ pair))).map .str)) (by ktr_rel) (by ktr_rel) (op_item_list (by omega) (by have := hisv i hi; omega) ?_))
    rw [Int.toNat_natCast, List.getElem?_map, List.getElem?_map, hgP i (hisv i hi)]; rfl
  case two2 =>
    exact {
      hfl := fun _ => rfl, hok := trivial, hT := fun d _ => .name _ _ _, hloc := fun d _ => loc1 (P := True) rfl
      hz := by rw [hfm1, List.length_map, List.length_map, sizeLine_eq]; omega
      hfl1 := fun _ => rfl, hok1 := trivial, hT1 := fun d _ e _ => .name _ _ _, hloc1 := fun d _ e _ => loc1 (P := True) rfl
      hap := fun d _ e _ p hp => by simp only [List.mem_cons, List.not_mem_nil, or_false] at hp; subst hp; rfl
      hcell := rfl, hkind := rfl, hempty := rfl
      inner := fun C a0 b s' outs d hd hb F' => by
        obtain ⟨p, hp, rfl⟩ := List.mem_map.mp hd
        exact sr_newT hf.hh (evn_base (evb_var F' (by rfl)) F'.keep)
      each := fun C a0 b s' outs d e hd he hb F' => by
        obtain ⟨p, hp, rfl⟩ := List.mem_map.mp hd
        simp only [List.mem_cons, List.not_mem_nil, or_false] at he
        rcases he with rfl | rfl
        · exact evn_flat (by ktr_rel)
        · exact evn_flat (by ktr_rel)
      hs1 := fun C v => rfl
      hclos := rfl, hnames := rfl }
  rw [hfm1] at F
  -- known
  have hfm2 : (ps.map PD).flatMap (fun d => ((match d with | .tup l => l | _ => [] : List D)).map fun e => e) = (partsP ps).map FD := by
    unfold partsP
    generalize ps = l
    induction l with
    | nil => rfl
    | cons p r ih => simp only [List.map_cons, List.flatMap_cons, List.map_append] at ih ⊢; rw [ih]; rfl
  refine ex_comp2 (okT := isNameOrTuple) (okT1 := isNameOrTuple) (sf := true) (fl := true) (sf1 := true) (fl1 := true) (ds := ps.map PD) (fun d => [("both", d)]) (fun d => [("part", d)]) (fun d => match d with | .tup l => l | _ => []) (fun _ e => e) F hf.hh
    (Sr.c (st := none) (sr_list hf.hh (Ev.as (ev_fn (hG1 (ub4.trans ub5) F.keep) (hf.deeper.le (by decide)) (fn_merged (dues := (QS isS).map (dueP eq q)) (by rw [List.length_map]; omega)) (evl_cons (EvFL.ev (EvFL.as (d := (isS.map fun (i : Nat) => D.int (i : Int)).filterMap (fH LD)) ?cd (evH isS hisv))) evl_nil)) (by rw [hps]; rfl)))) ?two3 fun b6 s₁₆ ub6 F => ?_
  case cd =>
    refine evfl_comp (fl := true) (ds := isS.map fun (i : Nat) => D.int (i : Int)) (fun d => [("place", d)]) (fH LD) F.vs hf.hh (Sr.c (st := none) (sr_list hf.hh (ev_loc F (by rfl)))) (fun _ => rfl) trivial (fun d _ => .name _ _ _) (fun d _ => loc1 (P := True) rfl) hzi ?_
    intro C a0 b s' outs d hd hb F'
    obtain ⟨i, hi, rfl⟩ := List.mem_map.mp hd
    rw [hgH i (hisv i hi)]
    refine ⟨ts_nil, fun d' e => ?_⟩
    cases e
    refine evn_base (evb_item_list (ds := (PC.map (dueP eq q)).map SD) (evb_var F' (by rfl)) F'.keep (by ktr_rel) (by omega) (by have := hisv i hi; omega) ?_) F'.keep
    rw [Int.toNat_natCast, List.getElem?_map, List.getElem?_map, hgP i (hisv i hi)]; rfl
  case two3 =>
    exact {
      hfl := fun _ => rfl, hok := trivial, hT := fun d _ => .name _ _ _, hloc := fun d _ => loc1 (P := True) rfl
      hz := by rw [hfm2, List.length_map, sizeLine_eq]; omega
      hfl1 := fun _ => rfl, hok1 := trivial, hT1 := fun d _ e _ => .name _ _ _, hloc1 := fun d _ e _ => loc1 (P := True) rfl
      hap := fun d _ e _ p hp => by simp only [List.mem_cons, List.not_mem_nil, or_false] at hp; subst hp; rfl
      hcell := rfl, hkind := rfl, hempty := rfl
      inner := fun C a0 b s' outs d hd hb F' => by
        obtain ⟨p, hp, rfl⟩ := List.mem_map.mp hd
        exact sr_newT hf.hh (evn_base (evb_var F' (by rfl)) F'.keep)
      each := fun C a0 b s' outs d e hd he hb F' => evn_base (evb_var F' (by rfl)) F'.keep
      hs1 := fun C v => rfl
      hclos := rfl, hnames := rfl }
  rw [hfm2] at F
  -- read
  have ub7 : Up g1 b6 := ub4.trans (ub5.trans ub6)
  have hpads := pads_len ps
  have hsg0 : (sgBase ++ pair : Str).cps.getD 0 0 = 65 := by
    show (sgBase.cps ++ pair.cps).getD 0 0 = 65
    have h0 : sgBase.cps[0]? = some 65 := by decide +kernel
    have hlt : 0 < sgBase.cps.size := (Array.getElem?_eq_some_iff.mp h0).1
    rw [Array.getD_eq_getD_getElem?, Array.getElem?_append_left hlt, h0]; rfl
  have hpi : InSg (sgBase ++ pair) ((partsP ps).flatMap padF) := fun f hf => by
    obtain ⟨x, hx, hfx⟩ := List.mem_flatMap.mp hf
    unfold padF at hfx
    rcases List.mem_append.mp hfx with h | h
    · exact (hpin x hx).1 f h
    · rw [List.eq_of_mem_replicate h, hsgl]; exact ⟨by decide, by decide⟩
  have hD := M.dec _ hpi hpads.2
  have hpw : ∀ x ∈ partsP ps, x.length ≤ 426 := fun x hx => by
    obtain ⟨p, hp, h⟩ := parts_mem hx
    have h1 : p.1.length + p.2.length + 6 ≤ wt ps := mem_sum (List.mem_map.mpr ⟨p, hp, rfl⟩)
    rcases h with rfl | rfl <;> omega
  let fP : D → Option D := fun d => match d with | .str t => some (.str (t ++ strRep "A" (-(t.length : Int) % 4).toNat)) | _ => none
  have hfP : ∀ x : List Int, fP (.str (textS (sgBase ++ pair) x)) = some (.str (textS (sgBase ++ pair) (padF x))) := fun x => by
    show some (D.str (textS (sgBase ++ pair) x ++ strRep "A" (-((textS (sgBase ++ pair) x).length : Int) % 4).toNat)) = _
    rw [htx]
    unfold padF
    rw [textS_append, textS_zeros hsg0]
  refine ex_assign (d := .bytes (byteArr (octP ((partsP ps).flatMap padF)))) F (Ev.as (ev_fn (hG1 ub7 F.keep) (hf.deeper.le (by decide)) (fn_b64decode (x := textS (sgBase ++ pair) ((partsP ps).flatMap padF)) (alt := asBytes pair) hD.ascii (by rw [htx]; omega) hal hD.q1 hD.q0)
    (evl_cons (Ev.as (ev_meth ev_str meth_join (evl_cons (d := .lst (((partsP ps).map fun x => textS (sgBase ++ pair) (padF x)).map .str)) (EvFL.ev (EvFL.as (d := (((partsP ps).map (textS (sgBase ++ pair))).map D.str).filterMap fP) ?cp ?cq)) evl_nil) (call_join ?cj)) (by rw [join_texts])) (evl_cons (ev_loc F (by rfl)) evl_nil))) (by rw [hD.out])) fun s₁₇ F => ?_
  case cq =>
    rw [List.map_map]
    exact (filterMap_map_some (f := fP) (g := fun x => D.str (textS (sgBase ++ pair) x)) hfP (partsP ps)).trans (by rw [List.map_map]; rfl)
  case cj =>
    have e0 : ("" : Str).length = 0 := rfl
    rw [e0, Nat.mul_zero, Nat.add_zero, List.map_map]
    have : ((partsP ps).map (Str.length ∘ fun x => textS (sgBase ++ pair) (padF x))).sum = ((partsP ps).flatMap padF).length := by
      rw [List.length_flatMap]
      congr 1
      exact List.map_congr_left fun x _ => htx (padF x)
    rw [this]; omega
  case cp =>
    refine evfl_comp (fl := true) (ds := ((partsP ps).map (textS (sgBase ++ pair))).map D.str) (fun d => [("text", d)]) fP F.vs hf.hh (Sr.c (st := none) (sr_list hf.hh (ev_loc F (by rfl)))) (fun _ => rfl) trivial (fun d _ => .name _ _ _) (fun d _ => loc1 (P := True) rfl) (by rw [List.length_map, List.length_map, sizeLine_eq]; omega) ?_
    intro C a0 b s' outs d hd hb F'
    obtain ⟨t, ht, rfl⟩ := List.mem_map.mp hd
    obtain ⟨x, hx, rfl⟩ := List.mem_map.mp ht
    have hxl := hpw x hx
    have hlx := htx x
    refine ⟨ts_nil, fun d' e => ?_⟩
    have e' : some (D.str (textS (sgBase ++ pair) x ++ strRep "A" (-((textS (sgBase ++ pair) x).length : Int) % 4).toNat)) = some d' := e
    cases e'
    have hG' := hG1 ub7 (stays_trans F.keep (stays_trans hb F'.keep))
    have hrl : ∀ n, (strRep "A" n).length = n := fun n => by
      show ((List.replicate n ("A" : Str).cps.toList).flatten.toArray).size = n
      have e : ("A" : Str).cps.toList = [65] := rfl
      rw [e, lm_rep_flat_one]; simp
    exact evn_flat (ev_binop (d2 := .str (strRep "A" (-((textS (sgBase ++ pair) x).length : Int) % 4).toNat)) (by ktr_rel) (ev_binop (d1 := .str "A") (d2 := .int (-((textS (sgBase ++ pair) x).length : Int) % 4)) ev_str (ev_binop (d1 := .int (-((textS (sgBase ++ pair) x).length : Int))) (ev_neg (ev_call (nm_boot hG' (by rfl) Boot.len) (.builtin _) (by kwd_rel) (call_len_str (by rw [sizeLine_eq]; omega)))) ev_int (op_modp (by decide))) (op_mul_str (by omega) (by omega) (by decide))) (op_add_str (by rw [hrl, sizeLine_eq]; omega)))
  -- the last question
  have hfm3 : ((partsP ps).map FD).flatMap (fun d => ((match d with | .lst l => (padF (unInts l)).map D.int | _ => [] : List D)).map fun e => e) = ((partsP ps).flatMap padF).map .int := by
    generalize partsP ps = l
    induction l with
    | nil => rfl
    | cons p r ih =>
      have hp : unInts (p.map D.int) = p := unInts_map p
      simp only [List.map_cons, List.flatMap_cons, List.map_append] at ih ⊢
      rw [ih]
      congr 1
      show ((padF (unInts (p.map D.int))).map D.int).map (fun e => e) = _
      rw [hp]; exact List.map_id _
  refine ex_if (b := false) F (tr_cmp (ev_loc F (by rfl)) (ev_fn (hG1 ub7 F.keep) (hf.deeper.le (by decide)) (fn_octets (fs := (partsP ps).flatMap padF) (by omega)) (evl_cons (EvFL.ev (EvFL.as (evfl_comp2 (okT := isNameOrTuple) (okT1 := isNameOrTuple) (sf := true) (fl := true) (sf1 := true) (fl1 := true) (ds := (partsP ps).map FD) (fun d => [("part", d)]) (fun d => [("figure", d)]) (fun d => match d with | .lst l => (padF (unInts l)).map D.int | _ => []) (fun _ e => e) F.vs hf.hh
    (Sr.c (st := none) (sr_list hf.hh (ev_loc F (by rfl)))) ?two4) hfm3)) evl_nil)) (Op.as cmp_ne_bytes (by simp))) (fun s₄ F e => by cases e) (fun s₁₈ F e => ex_nil (ex_nil ?_))
  case two4 =>
    exact {
      hfl := fun _ => rfl, hok := trivial, hT := fun d _ => .name _ _ _, hloc := fun d _ => loc1 (P := True) rfl
      hz := by rw [hfm3, List.length_map, sizeLine_eq]; omega
      hfl1 := fun _ => rfl, hok1 := trivial, hT1 := fun d _ e _ => .name _ _ _, hloc1 := fun d _ e _ => loc1 (P := True) rfl
      hap := fun d _ e _ p hp => by simp only [List.mem_cons, List.not_mem_nil, or_false] at hp; subst hp; rfl
      hcell := rfl, hkind := rfl, hempty := rfl
      inner := fun C a0 b s' outs d hd hb F' => by
        obtain ⟨x, hx, rfl⟩ := List.mem_map.mp hd
        have hxl := hpw x hx
        have hG' := hG1 ub7 (stays_trans F.keep (stays_trans hb F'.keep))
        have hun : unInts (x.map D.int) = x := unInts_map x
        refine sr_new hf.hh (EvFL.evn (EvFL.as (evfl_add (xs := x.map D.int) (ys := (List.replicate (-(x.length : Int) % 4).toNat [D.int 0]).flatten) (by ktr_rel) (ev_binop (ev_list (by kwd_rel) (by show 1 ≤ sizeLine; decide)) (ev_binop (d1 := .int (-(x.length : Int))) (ev_neg (Ev.as (ev_call (nm_boot hG' (by rfl) Boot.len) (.builtin _) (by kwd_rel) (call_len_lst (ds := x.map D.int) (by rw [List.length_map, sizeLine_eq]; omega))) (by rw [List.length_map]))) ev_int (op_modp (by decide))) (op_mul_list (ds := [D.int 0]) (by simp) (by omega) (by omega) (by simp; omega))) (by rw [lm_rep_flat_one, List.length_map, List.length_replicate, sizeLine_eq]; omega)) ?_) ?_)
        · show _ = (padF (unInts (x.map D.int))).map D.int
          rw [hun, lm_rep_flat_one]
          unfold padF
          rw [List.map_append, List.map_replicate]
        · show ∀ d ∈ (padF (unInts (x.map D.int))).map D.int, d.flat = true
          exact flat_int
      each := fun C a0 b s' outs d e hd he hb F' => by
        obtain ⟨x, hx, rfl⟩ := List.mem_map.mp hd
        obtain ⟨y, hy, rfl⟩ := List.mem_map.mp he
        exact evn_flat (by ktr_rel)
      hs1 := fun C v => rfl
      hclos := rfl, hnames := rfl }
  exact ⟨b6, _, _, ub7, ⟨rfl, rfl⟩, F.sub (.cons rfl (.cons rfl .nil))⟩
end

end
end Mine
end
noncomputable section
open PySem PySem.Calls PySem.W PyProof.Rows
set_option maxRecDepth 100000
set_option maxHeartbeats 8000000
namespace Mine
theorem fit_caller : Fit callerA 16 := by
  refine ⟨rfl, ?_, ?_⟩
  · show callerA.depth + 16 < 900; decide
  · show callerA.units + 20 * 16 < 9000; decide
theorem holds01 (math : ∀ ns : List Int, All01 ns) : PySem.Challenge.rw_pa0012_01.Holds := hd (by rfl) (by rfl) (by rfl) (by
  intro w s₀ s₁ mg mb G Y fa o pm cd doc dV kV ho hd hcd hD hmg hg args vals as hpre hlay hrd hwl hlo
  have KX : (KK3 w).In s₁.heap := Y
  have T := Ground.open G (fun T B D TE TW => T)
  have Gr1 : Gr (KK3 w) mg mb s₁.heap := ⟨KX, T.g, T.b, T.nolimit, T.builtins⟩
  have hfa : mg "law" = some (.ref 170) := mg_of KX T.g (by rfl)
  have hmg' : mg "law" = some (.ref fa) := hmg
  rw [hfa] at hmg'
  injection hmg' with hq
  injection hq with hq
  subst hq
  clear hmg hd hcd hD ho
  wrow_args hpre hlay hrd hwl hlo
  refine enter_call ?_
  rename_i ns _ _ _ _ _ _ _ l vs _ hL _ _ _ hI _ hn _
  have hn' : ns.length ≤ 63 := by omega
  refine run_law hL hI hn' fit_caller rfl Gr1 (math ns) fun s' ks => ?_
  obtain ⟨h1, t1, e1, st1⟩ := ks
  refine GoodW.toG ⟨.inl ⟨.bool true, .bool true, [], rfl, ?_, .bool true, ?_, unshared_nil⟩, ?_, ?_, ?_⟩
  · intro cls; rfl
  · wrow_post
  · rw [e1]; exact st1
  · rw [e1]
  · rw [e1]; exact hg)
end Mine

end
noncomputable section
open PySem PySem.W
set_option maxRecDepth 100000
set_option maxHeartbeats 4000000
namespace Mine
/-- the figures of six bits of a row of octets -/
noncomputable def S6 : List Int → List Int
  | [] => []
  | [a] => [a / 4, a % 4 * 16]
  | [a, b] => [a / 4, a % 4 * 16 + b / 16, b % 16 * 4]
  | a :: b :: c :: r => a / 4 :: (a % 4 * 16 + b / 16) :: (b % 16 * 4 + c / 64) :: c % 64 :: S6 r
noncomputable def pad6 (n : Nat) : List Int := List.replicate ((3 - n % 3) % 3) 61
noncomputable def Oct (xs : List Int) : Prop := ∀ x ∈ xs, 0 ≤ x ∧ x < 256
theorem stp0 {o : List Int} {lc a : Int} (h : 0 ≤ lc) (ha : 0 ≤ a ∧ a < 256) : ∃ l1, stp (o, 0, lc) a = (o ++ [sg (a / 4)], 2, l1) ∧ 0 ≤ l1 ∧ l1 % 256 = a := by
  refine ⟨(lc * 256 + a) % 65536, ?_, by omega, by omega⟩
  unfold stp
  show ((wh ((lc * 256 + a) % 65536) 8 o).1, (wh ((lc * 256 + a) % 65536) 8 o).2, _) = _
  have e : wh ((lc * 256 + a) % 65536) 8 o = (o ++ [sg ((lc * 256 + a) % 65536 / 2 ^ 2 % 64)], 2) := rfl
  rw [e]
  have : (lc * 256 + a) % 65536 / 2 ^ 2 % 64 = a / 4 := by omega
  rw [this]
theorem stp2 {o : List Int} {lc a b : Int} (h : 0 ≤ lc) (hl : lc % 256 = a) (ha : 0 ≤ a ∧ a < 256) (hb : 0 ≤ b ∧ b < 256) : stp (o, 2, lc) b = (o ++ [sg (a % 4 * 16 + b / 16)], 4, a * 256 + b) := by
  unfold stp
  have e1 : (lc * 256 + b) % 65536 = a * 256 + b := by omega
  show ((wh ((lc * 256 + b) % 65536) 10 o).1, (wh ((lc * 256 + b) % 65536) 10 o).2, (lc * 256 + b) % 65536) = _
  rw [e1]
  have e : wh (a * 256 + b) 10 o = (o ++ [sg ((a * 256 + b) / 2 ^ 4 % 64)], 4) := rfl
  rw [e]
  have : (a * 256 + b) / 2 ^ 4 % 64 = a % 4 * 16 + b / 16 := by omega
  rw [this]
theorem stp4 {o : List Int} {a b c : Int} (ha : 0 ≤ a ∧ a < 256) (hb : 0 ≤ b ∧ b < 256) (hc : 0 ≤ c ∧ c < 256) : stp (o, 4, a * 256 + b) c = (o ++ [sg (b % 16 * 4 + c / 64)] ++ [sg (c % 64)], 0, b * 256 + c) := by
  unfold stp
  have e1 : ((a * 256 + b) * 256 + c) % 65536 = b * 256 + c := by omega
  show ((wh (((a * 256 + b) * 256 + c) % 65536) 12 o).1, (wh (((a * 256 + b) * 256 + c) % 65536) 12 o).2, ((a * 256 + b) * 256 + c) % 65536) = _
  rw [e1]
  have e : wh (b * 256 + c) 12 o = (o ++ [sg ((b * 256 + c) / 2 ^ 6 % 64)] ++ [sg ((b * 256 + c) / 2 ^ 0 % 64)], 0) := rfl
  rw [e]
  have h1 : (b * 256 + c) / 2 ^ 6 % 64 = b % 16 * 4 + c / 64 := by omega
  have h2 : (b * 256 + c) / 2 ^ 0 % 64 = c % 64 := by omega
  rw [h1, h2]
theorem enc_fold : ∀ (xs : List Int) (o : List Int) (lc : Int), Oct xs → 0 ≤ lc → fin (xs.foldl stp (o, 0, lc)) = o ++ (S6 xs).map sg ++ pad6 xs.length
  | [], o, lc, h, hl => by simp [fin, S6, pad6]
  | [a], o, lc, h, hl => by
    obtain ⟨l1, e1, h1, h2⟩ := stp0 (o := o) hl (h a (.head _))
    show fin (stp (o, 0, lc) a) = _
    rw [e1]
    have : l1 % 4 = a % 4 := by omega
    simp [fin, S6, pad6, this, List.replicate]
  | [a, b], o, lc, h, hl => by
    have ha := h a (.head _)
    have hb := h b (.tail _ (.head _))
    obtain ⟨l1, e1, h1, h2⟩ := stp0 (o := o) hl ha
    show fin (stp (stp (o, 0, lc) a) b) = _
    rw [e1, stp2 h1 h2 ha hb]
    have : (a * 256 + b) % 16 = b % 16 := by omega
    simp [fin, S6, pad6, this, List.replicate]
  | a :: b :: c :: r, o, lc, h, hl => by
    have ha := h a (.head _)
    have hb := h b (.tail _ (.head _))
    have hc := h c (.tail _ (.tail _ (.head _)))
    obtain ⟨l1, e1, h1, h2⟩ := stp0 (o := o) hl ha
    show fin (r.foldl stp (stp (stp (stp (o, 0, lc) a) b) c)) = _
    rw [e1, stp2 h1 h2 ha hb, stp4 ha hb hc, enc_fold r _ _ (fun x hx => h x (.tail _ (.tail _ (.tail _ hx)))) (by omega)]
    have hp : pad6 (a :: b :: c :: r).length = pad6 r.length := by
      unfold pad6; rw [show (a :: b :: c :: r).length = r.length + 3 from rfl, Nat.add_mod_right]
    rw [hp]
    simp [S6]
theorem b2a_eq {xs : List Int} (h : Oct xs) : b2a xs = (S6 xs).map sg ++ pad6 xs.length := by
  unfold b2a
  rw [enc_fold xs [] 0 h (by decide)]; simp
theorem sr1 {a : Int} (h : 0 ≤ a ∧ a < 256) : 0 ≤ a / 4 ∧ a / 4 < 64 := by omega
theorem sr2 (a : Int) {x : Int} (h : 0 ≤ x ∧ x < 16) : 0 ≤ a % 4 * 16 + x ∧ a % 4 * 16 + x < 64 := by omega
theorem sr3 (b : Int) {x : Int} (h : 0 ≤ x ∧ x < 4) : 0 ≤ b % 16 * 4 + x ∧ b % 16 * 4 + x < 64 := by omega
theorem sr4 (c : Int) : 0 ≤ c % 64 ∧ c % 64 < 64 := ⟨Int.emod_nonneg _ (by decide), Int.emod_lt_of_pos _ (by decide)⟩
theorem oct16 {b : Int} (hb : 0 ≤ b ∧ b < 256) : 0 ≤ b / 16 ∧ b / 16 < 16 := by omega
theorem oct64 {c : Int} (hc : 0 ≤ c ∧ c < 256) : 0 ≤ c / 64 ∧ c / 64 < 4 := by omega
theorem S6_range : ∀ (xs : List Int), Oct xs → ∀ s ∈ S6 xs, 0 ≤ s ∧ s < 64
  | [], h, s, hs => by cases hs
  | [a], h, s, hs => by
    rcases List.mem_cons.mp hs with rfl | hs
    · exact sr1 (h a (.head _))
    · rw [List.mem_singleton.mp hs]
      have := sr2 a (x := 0) (by decide)
      rwa [Int.add_zero] at this
  | [a, b], h, s, hs => by
    rcases List.mem_cons.mp hs with rfl | hs
    · exact sr1 (h a (.head _))
    rcases List.mem_cons.mp hs with rfl | hs
    · exact sr2 a (oct16 (h b (.tail _ (.head _))))
    · rw [List.mem_singleton.mp hs]
      have := sr3 b (x := 0) (by decide)
      rwa [Int.add_zero] at this
  | a :: b :: c :: r, h, s, hs => by
    rcases List.mem_cons.mp hs with rfl | hs
    · exact sr1 (h a (.head _))
    rcases List.mem_cons.mp hs with rfl | hs
    · exact sr2 a (oct16 (h b (.tail _ (.head _))))
    rcases List.mem_cons.mp hs with rfl | hs
    · exact sr3 b (oct64 (h c (.tail _ (.tail _ (.head _)))))
    rcases List.mem_cons.mp hs with rfl | hs
    · exact sr4 c
    · exact S6_range r (fun x hx => h x (.tail _ (.tail _ (.tail _ hx)))) s hs
/-! the decoder -/
theorem sg_all : ∀ s : Nat, s < 64 → b64v (sg (s : Int)) = (s : Int) ∧ sg (s : Int) ≠ 61 := by decide +kernel
theorem b64v_sg {s : Int} (h0 : 0 ≤ s) (h1 : s < 64) : b64v (sg s) = s ∧ sg s ≠ 61 := by
  obtain ⟨n, rfl⟩ := Int.eq_ofNat_of_zero_le h0
  exact sg_all n (by omega)
noncomputable def dq (st : AS) (s : Int) : AS :=
  if st.q = 0 then ⟨st.o, 1, s, 0⟩
  else if st.q = 1 then ⟨st.o ++ [st.l * 4 + s / 16], 2, s % 16, 0⟩
  else if st.q = 2 then ⟨st.o ++ [st.l * 16 + s / 4], 3, s % 4, 0⟩
  else ⟨st.o ++ [st.l * 64 + s], 0, 0, 0⟩
theorem aStep_sg {st : AS} {s : Int} (h0 : 0 ≤ s) (h1 : s < 64) : aStep st (sg s) = dq st s := by
  obtain ⟨e1, e2⟩ := b64v_sg h0 h1
  unfold aStep dq
  rw [if_neg e2, e1, if_neg (by omega)]
theorem fold_sg : ∀ (ss : List Int) (st : AS), (∀ s ∈ ss, 0 ≤ s ∧ s < 64) → (ss.map sg).foldl aStep st = ss.foldl dq st
  | [], st, h => rfl
  | s :: r, st, h => by
    have := h s (.head _)
    rw [List.map_cons, List.foldl_cons, List.foldl_cons, aStep_sg this.1 this.2, fold_sg r _ fun x hx => h x (.tail _ hx)]
/-- what is left after the figures of a row -/
noncomputable def dEnd (o : List Int) (l p : Int) (xs : List Int) : AS :=
  if xs = [] then ⟨o, 0, l, p⟩ else if xs.length % 3 = 0 then ⟨o ++ xs, 0, 0, 0⟩ else if xs.length % 3 = 1 then ⟨o ++ xs, 2, 0, 0⟩ else ⟨o ++ xs, 3, 0, 0⟩
theorem dq4 (o : List Int) (l p s0 s1 s2 s3 : Int) (r : List Int) : (s0 :: s1 :: s2 :: s3 :: r).foldl dq ⟨o, 0, l, p⟩ = r.foldl dq ⟨o ++ [s0 * 4 + s1 / 16] ++ [s1 % 16 * 16 + s2 / 4] ++ [s2 % 4 * 64 + s3], 0, 0, 0⟩ := rfl
end Mine

end
noncomputable section
open PySem PySem.W
set_option maxRecDepth 100000
set_option maxHeartbeats 4000000
namespace Mine
/-- a number's figures to a base, the highest first -/
noncomputable def dg (B : Int) (n : Nat) (v : Int) : List Int := ((List.range n).map fun k => v / B ^ k % B).reverse
theorem dg_add {B : Int} (hB : 0 < B) (n m : Nat) (hi lo : Int) (h0 : 0 ≤ lo) (h1 : lo < B ^ m) : dg B (n + m) (hi * B ^ m + lo) = dg B n hi ++ dg B m lo := by
  have hp : ∀ k : Nat, 0 < B ^ k := fun k => Int.pow_pos hB
  unfold dg
  rw [Nat.add_comm n m, List.range_add, List.map_append, List.reverse_append, List.map_map]
  congr 2
  · apply List.map_congr_left
    intro k _
    show (hi * B ^ m + lo) / B ^ (m + k) % B = hi / B ^ k % B
    rw [Int.pow_add, ← Int.ediv_ediv_of_nonneg (Int.le_of_lt (hp m)), Int.add_comm, Int.add_mul_ediv_right _ _ (Int.ne_of_gt (hp m)), Int.ediv_eq_zero_of_lt h0 h1, Int.zero_add]
  · apply List.map_congr_left
    intro k hk
    have hk : k < m := List.mem_range.mp hk
    obtain ⟨j, rfl⟩ : ∃ j, m = k + 1 + j := ⟨m - (k + 1), by omega⟩
    have e : hi * B ^ (k + 1 + j) = (hi * B ^ j * B) * B ^ k := by
      rw [Int.pow_add, Int.pow_succ]; ac_rfl
    rw [e, Int.add_comm, Int.add_mul_ediv_right _ _ (Int.ne_of_gt (hp k)), Int.add_mul_emod_self_right]
theorem foldl_base (B : Int) : ∀ (r : List Int) (v : Int), r.foldl (fun v o => v * B + o) v = v * B ^ r.length + r.foldl (fun v o => v * B + o) 0
  | [], v => by simp
  | x :: r, v => by
    rw [List.foldl_cons, List.foldl_cons, foldl_base B r (v * B + x), foldl_base B r (0 * B + x), List.length_cons, Int.pow_succ, Int.zero_mul, Int.zero_add, Int.add_mul, Int.add_assoc]
    congr 1; ac_rfl
theorem foldl_range {B : Int} (hB : 0 < B) : ∀ (r : List Int), (∀ x ∈ r, 0 ≤ x ∧ x < B) → 0 ≤ r.foldl (fun v o => v * B + o) 0 ∧ r.foldl (fun v o => v * B + o) 0 < B ^ r.length
  | [], _ => by simp
  | x :: r, h => by
    have hx := h x (.head _)
    have ih := foldl_range hB r fun y hy => h y (.tail _ hy)
    have hp : 0 < B ^ r.length := Int.pow_pos hB
    rw [List.foldl_cons, foldl_base, List.length_cons, Int.pow_succ, Int.zero_mul, Int.zero_add]
    have h1 : 0 ≤ x * B ^ r.length := Int.mul_nonneg hx.1 (Int.le_of_lt hp)
    have h2 : x * B ^ r.length ≤ (B - 1) * B ^ r.length := Int.mul_le_mul_of_nonneg_right (by omega) (Int.le_of_lt hp)
    have h3 : B ^ r.length * B = (B - 1) * B ^ r.length + B ^ r.length := by rw [Int.sub_mul, Int.one_mul, Int.mul_comm]; omega
    omega
theorem pow_64 (c : Nat) : (64 : Int) ^ c = 2 ^ (c * 6) := by
  rw [Nat.mul_comm, Int.pow_mul]; rfl
theorem pow_256 (c : Nat) : (256 : Int) ^ c = 2 ^ (c * 8) := by
  rw [Nat.mul_comm, Int.pow_mul]; rfl
theorem dg2 (v : Int) : dg 64 2 v = [v / 64 % 64, v % 64] := by
  unfold dg
  show [v / 64 ^ 1 % 64, v / 64 ^ 0 % 64] = _
  rw [Int.pow_zero, Int.ediv_one]; rfl
theorem dg3 (v : Int) : dg 64 3 v = [v / 4096 % 64, v / 64 % 64, v % 64] := by
  unfold dg
  show [v / 64 ^ 2 % 64, v / 64 ^ 1 % 64, v / 64 ^ 0 % 64] = _
  rw [Int.pow_zero, Int.ediv_one]; rfl
theorem dg4 (v : Int) : dg 64 4 v = [v / 262144 % 64, v / 4096 % 64, v / 64 % 64, v % 64] := by
  unfold dg
  show [v / 64 ^ 3 % 64, v / 64 ^ 2 % 64, v / 64 ^ 1 % 64, v / 64 ^ 0 % 64] = _
  rw [Int.pow_zero, Int.ediv_one]; rfl
theorem do3 (v : Int) : dg 256 3 v = [v / 65536 % 256, v / 256 % 256, v % 256] := by
  unfold dg
  show [v / 256 ^ 2 % 256, v / 256 ^ 1 % 256, v / 256 ^ 0 % 256] = _
  rw [Int.pow_zero, Int.ediv_one]; rfl
theorem list3 {a b c a' b' c' : Int} (h1 : a = a') (h2 : b = b') (h3 : c = c') : [a, b, c] = [a', b', c'] := by subst h1; subst h2; subst h3; rfl
theorem list4 {a b c d a' b' c' d' : Int} (h1 : a = a') (h2 : b = b') (h3 : c = c') (h4 : d = d') : [a, b, c, d] = [a', b', c', d'] := by subst h1; subst h2; subst h3; subst h4; rfl
noncomputable def low (row : List Int) : Int := rowVal row * 2 ^ (cnt6 row.length * 6 - row.length * 8)
theorem low_range {r : List Int} (h : Oct r) : 0 ≤ low r ∧ low r < 64 ^ cnt6 r.length := by
  have hr := foldl_range (B := 256) (by decide) r h
  have hp : (0 : Int) < 2 ^ (cnt6 r.length * 6 - r.length * 8) := Int.pow_pos (by decide)
  have e : (64 : Int) ^ cnt6 r.length = 256 ^ r.length * 2 ^ (cnt6 r.length * 6 - r.length * 8) := by
    rw [pow_64, pow_256, ← Int.pow_add]
    congr 1; unfold cnt6; omega
  unfold low rowVal
  exact ⟨Int.mul_nonneg hr.1 (Int.le_of_lt hp), by rw [e]; exact Int.mul_lt_mul_of_pos_right hr.2 hp⟩
theorem low_three (a b c : Int) (r : List Int) : low (a :: b :: c :: r) = ((a * 256 + b) * 256 + c) * 64 ^ cnt6 r.length + low r := by
  unfold low
  have hl : (a :: b :: c :: r).length = r.length + 3 := rfl
  have hc : cnt6 (a :: b :: c :: r).length = cnt6 r.length + 4 := by rw [hl]; unfold cnt6; omega
  have e1 : cnt6 (a :: b :: c :: r).length * 6 - (a :: b :: c :: r).length * 8 = cnt6 r.length * 6 - r.length * 8 := by rw [hc, hl]; omega
  have e2 : rowVal (a :: b :: c :: r) = ((a * 256 + b) * 256 + c) * 256 ^ r.length + rowVal r := by
    unfold rowVal
    rw [List.foldl_cons, List.foldl_cons, List.foldl_cons, foldl_base, Int.zero_mul, Int.zero_add]
  have e : (64 : Int) ^ cnt6 r.length = 256 ^ r.length * 2 ^ (cnt6 r.length * 6 - r.length * 8) := by
    rw [pow_64, pow_256, ← Int.pow_add]
    congr 1; unfold cnt6; omega
  rw [e1, e2, e, Int.add_mul, Int.mul_assoc]
theorem shown_S6 : ∀ (row : List Int), Oct row → dg 64 (cnt6 row.length) (low row) = S6 row
  | [], h => rfl
  | [a], h => by
    have ha := h a (.head _)
    have hl : ([a] : List Int).length = 1 := rfl
    have hc : cnt6 1 = 2 := by decide
    have e : low [a] = a * 16 := by
      unfold low rowVal
      rw [hl, hc, List.foldl_cons, List.foldl_nil, Int.zero_mul, Int.zero_add]; rfl
    rw [hl, hc, dg2, e]
    show _ = [a / 4, a % 4 * 16]
    have h1 : a * 16 / 64 % 64 = a / 4 := by omega
    have h2 : a * 16 % 64 = a % 4 * 16 := by omega
    rw [h1, h2]
  | [a, b], h => by
    have ha := h a (.head _)
    have hb := h b (.tail _ (.head _))
    have hl : ([a, b] : List Int).length = 2 := rfl
    have hc : cnt6 2 = 3 := by decide
    have e : low [a, b] = (a * 256 + b) * 4 := by
      unfold low rowVal
      rw [hl, hc, List.foldl_cons, List.foldl_cons, List.foldl_nil, Int.zero_mul, Int.zero_add]; rfl
    rw [hl, hc, dg3, e]
    show _ = [a / 4, a % 4 * 16 + b / 16, b % 16 * 4]
    exact list3 (by omega) (by omega) (by omega)
  | a :: b :: c :: r, h => by
    have ha := h a (.head _)
    have hb := h b (.tail _ (.head _))
    have hc := h c (.tail _ (.tail _ (.head _)))
    have hr : Oct r := fun x hx => h x (.tail _ (.tail _ (.tail _ hx)))
    have hl : (a :: b :: c :: r).length = r.length + 3 := rfl
    have e : cnt6 (a :: b :: c :: r).length = 4 + cnt6 r.length := by rw [hl]; unfold cnt6; omega
    have hlo := low_range hr
    rw [e, low_three, dg_add (by decide) 4 (cnt6 r.length) _ _ hlo.1 hlo.2, shown_S6 r hr, dg4]
    show _ = [a / 4, a % 4 * 16 + b / 16, b % 16 * 4 + c / 64, c % 64] ++ S6 r
    congr 1
    exact list4 (by omega) (by omega) (by omega) (by omega)
theorem shownP_eq {row : List Int} {eq : Int} (h : Oct row) : shownP row eq = S6 row ++ List.replicate ((3 - row.length % 3) % 3) eq := by
  rw [← shown_S6 row h]
  unfold shownP dg low
  congr 2
  omega
/-! the octets of figures by fours -/
noncomputable def Six (fs : List Int) : Prop := ∀ x ∈ fs, 0 ≤ x ∧ x < 64
theorem octP_dg (fs : List Int) : octP fs = dg 256 (fs.length * 3 / 4) (val64 fs) := rfl
theorem octP_four {s0 s1 s2 s3 : Int} {r : List Int} (h : Six (s0 :: s1 :: s2 :: s3 :: r)) (hl : r.length % 4 = 0) : octP (s0 :: s1 :: s2 :: s3 :: r) = [s0 * 4 + s1 / 16, s1 % 16 * 16 + s2 / 4, s2 % 4 * 64 + s3] ++ octP r := by
  have h0 := h s0 (.head _)
  have h1 := h s1 (.tail _ (.head _))
  have h2 := h s2 (.tail _ (.tail _ (.head _)))
  have h3 := h s3 (.tail _ (.tail _ (.tail _ (.head _))))
  have hr : Six r := fun x hx => h x (.tail _ (.tail _ (.tail _ (.tail _ hx))))
  have hlen : (s0 :: s1 :: s2 :: s3 :: r).length = r.length + 4 := rfl
  obtain ⟨m, hm⟩ : ∃ m, r.length = 4 * m := ⟨r.length / 4, by omega⟩
  have hv : val64 (s0 :: s1 :: s2 :: s3 :: r) = (((s0 * 64 + s1) * 64 + s2) * 64 + s3) * 64 ^ r.length + val64 r := by
    unfold val64
    rw [List.foldl_cons, List.foldl_cons, List.foldl_cons, List.foldl_cons, foldl_base, Int.zero_mul, Int.zero_add]
  have hp : (64 : Int) ^ r.length = 256 ^ (r.length * 3 / 4) := by
    rw [pow_64, pow_256]; congr 1; omega
  have hn : (s0 :: s1 :: s2 :: s3 :: r).length * 3 / 4 = 3 + r.length * 3 / 4 := by rw [hlen]; omega
  have hv2 : 0 ≤ val64 r ∧ val64 r < 64 ^ r.length := foldl_range (B := 64) (by decide) r hr
  rw [octP_dg, octP_dg, hn, hv, hp, dg_add (by decide) 3 (r.length * 3 / 4) _ _ hv2.1 (by rw [← hp]; exact hv2.2), do3]
  congr 1
  exact list3 (by omega) (by omega) (by omega)
theorem dec4 : ∀ (fs : List Int) (o : List Int) (l p : Int), Six fs → fs.length % 4 = 0 → (fs.foldl dq ⟨o, 0, l, p⟩).q = 0 ∧ (fs.foldl dq ⟨o, 0, l, p⟩).o = o ++ octP fs
  | [], o, l, p, h, hl => ⟨rfl, by show o = o ++ []; simp⟩
  | [_], _, _, _, _, hl => by simp at hl
  | [_, _], _, _, _, _, hl => by simp at hl
  | [_, _, _], _, _, _, _, hl => by simp at hl
  | s0 :: s1 :: s2 :: s3 :: r, o, l, p, h, hl => by
    have hl' : r.length % 4 = 0 := by
      have : (s0 :: s1 :: s2 :: s3 :: r).length = r.length + 4 := rfl
      omega
    have ih := dec4 r (o ++ [s0 * 4 + s1 / 16] ++ [s1 % 16 * 16 + s2 / 4] ++ [s2 % 4 * 64 + s3]) 0 0 (fun x hx => h x (.tail _ (.tail _ (.tail _ (.tail _ hx))))) hl'
    rw [dq4, octP_four h hl']
    exact ⟨ih.1, by rw [ih.2]; simp⟩
end Mine

end
noncomputable section
open PySem PySem.W
set_option maxRecDepth 100000
set_option maxHeartbeats 4000000
namespace Mine
/-- the sign of an octet of base 64's own, with an alphabet's last two -/
noncomputable def tr (alt : Array UInt8) (n : Int) : Nat := ((mkTab #[43, 47] alt).getD n.toNat.toUInt8.toNat n.toNat.toUInt8).toNat
noncomputable def dc (alt : Array UInt8) (c : Nat) : Int := ((mkTab alt #[43, 47]).getD c.toUInt8.toNat c.toUInt8).toNat
theorem tab2 {a b c d n : UInt8} : (mkTab #[a, b] #[c, d]).getD n.toNat n = if b = n then d else if a = n then c else n := by
  have e : mkTab #[a, b] #[c, d] = ((((Array.range 256).map (·.toUInt8)).setIfInBounds a.toNat c).setIfInBounds b.toNat d) := rfl
  have hn := n.toNat_lt
  have hb : (((Array.range 256).map (·.toUInt8)) : Array UInt8)[n.toNat]? = some n := by
    rw [Array.getElem?_map, Array.getElem?_range]
    simp [hn]
  rw [e, Array.getD_eq_getD_getElem?, Array.getElem?_setIfInBounds, Array.getElem?_setIfInBounds, hb]
  by_cases h1 : b = n
  · subst h1; simp [hn]
  · have h1' : b.toNat ≠ n.toNat := fun q => h1 (UInt8.toNat_inj.mp q)
    rw [if_neg h1', if_neg h1]
    by_cases h2 : a = n
    · subst h2; simp [hn]
    · have h2' : a.toNat ≠ n.toNat := fun q => h2 (UInt8.toNat_inj.mp q)
      rw [if_neg h2', if_neg h2]; rfl
noncomputable def tr2 (x y : UInt8) (n : Nat) : Nat := (if (47 : UInt8) = n.toUInt8 then y else if (43 : UInt8) = n.toUInt8 then x else n.toUInt8).toNat
noncomputable def dc2 (x y : UInt8) (n : Nat) : Nat := (if y = n.toUInt8 then 47 else if x = n.toUInt8 then 43 else n.toUInt8).toNat
theorem tr_eq {x y : UInt8} (n : Int) : tr #[x, y] n = tr2 x y n.toNat := by unfold tr tr2; rw [tab2]
theorem dc_eq {x y : UInt8} (n : Nat) : dc #[x, y] n = dc2 x y n := by unfold dc dc2; rw [tab2]
theorem dec_codes {alt : Array UInt8} {x : Str} : octs (decA alt (asBytes x)) = x.cps.toList.map (dc alt) := by
  unfold octs decA asBytes trans
  simp only [Array.toList_map, List.map_map]
  rfl
/-- a figure's sign -/
noncomputable def cd (sn : Str) (f : Int) : Nat := sn.cps.getD f.toNat 0
theorem textS_codes (sn : Str) (fs : List Int) : (textS sn fs).cps.toList = fs.map (cd sn) := by unfold textS cd; simp
structure Sign1 (alt : Array UInt8) (eq comma q : Int) (f : Int) (c : Nat) : Prop where
  enc : c = tr alt (sg f)
  lt : c < 128
  slash : c ≠ 92
  space : Unicode.isSpace c = false
  back : dc alt c = sg f
  eq : (c == 61) = (f == eq)
  comma : (c == 44) = (f == comma)
  q : (c == 34) = (f == q)
structure SgOk (sn : Str) (alt : Array UInt8) (eq comma q : Int) : Prop where
  len : sn.length = 64
  eqr : 0 ≤ eq ∧ eq < 64
  one : comma = -1 ∨ q = -1
  pad : tr alt 61 = 61
  all : ∀ f : Int, 0 ≤ f → f < 64 → Sign1 alt eq comma q f (cd sn f)
noncomputable def chk (sn : Str) (x y : UInt8) (eq comma q : Int) (n : Nat) : Bool :=
  let c := sn.cps.getD n 0
  c == tr2 x y (sg n).toNat && c < 128 && c != 92 && !Unicode.isSpace c && (dc2 x y c : Int) == sg n && ((c == 61) == ((n : Int) == eq)) && ((c == 44) == ((n : Int) == comma)) && ((c == 34) == ((n : Int) == q))
theorem sgOk_of {sn : Str} {x y : UInt8} {eq comma q : Int} (h0 : sn.length = 64) (h1 : 0 ≤ eq ∧ eq < 64) (h2 : comma = -1 ∨ q = -1) (h3 : tr2 x y 61 = 61) (h : ∀ n : Nat, n < 64 → chk sn x y eq comma q n = true) : SgOk sn #[x, y] eq comma q := by
  refine ⟨h0, h1, h2, by rw [tr_eq]; exact h3, fun f a b => ?_⟩
  obtain ⟨n, rfl⟩ := Int.eq_ofNat_of_zero_le a
  have k := h n (by omega)
  unfold chk at k
  simp only [Bool.and_eq_true, beq_iff_eq, bne_iff_ne, decide_eq_true_eq, Bool.not_eq_true'] at k
  obtain ⟨⟨⟨⟨⟨⟨⟨k1, k2⟩, k3⟩, k4⟩, k5⟩, k6⟩, k7⟩, k8⟩ := k
  exact ⟨by rw [tr_eq]; exact k1, k2, k3, k4, by rw [dc_eq]; exact k5, k6, k7, k8⟩
theorem sgn0 : SgOk (sgBase ++ "=,") (asBytes "=,") 62 63 (-1) := by
  have e : asBytes "=," = #[61, 44] := by decide +kernel
  rw [e]
  exact sgOk_of (by decide +kernel) (by decide) (by decide) (by decide +kernel) (by decide +kernel)
theorem sgn1 : SgOk (sgBase ++ ",=") (asBytes ",=") 63 62 (-1) := by
  have e : asBytes ",=" = #[44, 61] := by decide +kernel
  rw [e]
  exact sgOk_of (by decide +kernel) (by decide) (by decide) (by decide +kernel) (by decide +kernel)
theorem sgn2 : SgOk (sgBase ++ "=\"") (asBytes "=\"") 62 (-1) 63 := by
  have e : asBytes "=\"" = #[61, 34] := by decide +kernel
  rw [e]
  exact sgOk_of (by decide +kernel) (by decide) (by decide) (by decide +kernel) (by decide +kernel)
theorem sgn3 : SgOk (sgBase ++ "\"=") (asBytes "\"=") 63 (-1) 62 := by
  have e : asBytes "\"=" = #[34, 61] := by decide +kernel
  rw [e]
  exact sgOk_of (by decide +kernel) (by decide) (by decide) (by decide +kernel) (by decide +kernel)
theorem octs_oct (b : Array UInt8) : Oct (octs b) := fun x hx => by
  unfold octs at hx
  obtain ⟨c, _, rfl⟩ := List.mem_map.mp hx
  have := c.toNat_lt
  omega
theorem encA_codes (alt b : Array UInt8) : (encA alt b).toList.map (·.toNat) = (b2a (octs b)).map (tr alt) := by
  unfold encA trans byteArr
  simp only [Array.toList_map, List.map_map]
  rfl
section
variable {sn : Str} {alt : Array UInt8} {eq comma q : Int}
theorem SgOk.eq61 (S : SgOk sn alt eq comma q) : cd sn eq = 61 := by
  have := (S.all eq S.eqr.1 S.eqr.2).eq
  rw [beq_self_eq_true] at this
  simpa using this
theorem enc_shown (S : SgOk sn alt eq comma q) (b : Array UInt8) : (encA alt b).toList.map (·.toNat) = (shownP (octs b) eq).map (cd sn) := by
  have ho := octs_oct b
  rw [encA_codes, b2a_eq ho, shownP_eq ho, List.map_append, List.map_append, List.map_map, List.map_replicate, S.eq61]
  unfold pad6
  rw [List.map_replicate, S.pad]
  congr 1
  apply List.map_congr_left
  intro s hs
  have r := S6_range _ ho s hs
  exact (S.all s r.1 r.2).enc.symm
theorem shown_six (S : SgOk sn alt eq comma q) (b : Array UInt8) : Six (shownP (octs b) eq) := fun x hx => by
  rw [shownP_eq (octs_oct b)] at hx
  rcases List.mem_append.mp hx with hx | hx
  · exact S6_range _ (octs_oct b) x hx
  · rw [(List.mem_replicate.mp hx).2]; exact S.eqr
theorem six_insg (S : SgOk sn alt eq comma q) {fs : List Int} : Six fs ↔ InSg sn fs := by
  unfold Six InSg
  rw [S.len]
  exact Iff.rfl
theorem str_ext {a b : Str} (h : a.cps.toList = b.cps.toList) : a = b := by
  cases a; cases b; simp at h; subst h; rfl
theorem enc_text (S : SgOk sn alt eq comma q) (b : Array UInt8) : asText (encA alt b) = textS sn (shownP (octs b) eq) := by
  apply str_ext
  rw [textS_codes, ← enc_shown S b]
  unfold asText; simp
theorem enc_ascii (S : SgOk sn alt eq comma q) (b : Array UInt8) : ∀ c ∈ (encA alt b).toList, c.toNat < 128 := by
  intro c hc
  have hm : c.toNat ∈ (shownP (octs b) eq).map (cd sn) := by rw [← enc_shown S b]; exact List.mem_map.mpr ⟨c, hc, rfl⟩
  obtain ⟨f, hf, e⟩ := List.mem_map.mp hm
  have r := shown_six S b f hf
  rw [← e]; exact (S.all f r.1 r.2).lt
theorem dec_text (S : SgOk sn alt eq comma q) {fs : List Int} (h : Six fs) (hl : fs.length % 4 = 0) : DecF alt (textS sn fs) (octP fs) := by
  have e : octs (decA alt (asBytes (textS sn fs))) = fs.map sg := by
    rw [dec_codes, textS_codes, List.map_map]
    apply List.map_congr_left
    intro f hf
    have r := h f hf
    exact (S.all f r.1 r.2).back
  have e2 : aRun (fs.map sg) = fs.foldl dq ⟨[], 0, 0, 0⟩ := fold_sg fs _ h
  have d := dec4 fs [] 0 0 h hl
  refine ⟨fun c hc => ?_, ?_, ?_, ?_⟩
  · rw [textS_codes] at hc
    obtain ⟨f, hf, rfl⟩ := List.mem_map.mp hc
    have r := h f hf
    exact (S.all f r.1 r.2).lt
  · rw [e, e2, d.1]; decide
  · rw [e, e2, d.1]; intro h; exact absurd rfl h
  · rw [e, e2, d.2, List.nil_append]
/-- a sign tells its figure -/
theorem cd_inj (S : SgOk sn alt eq comma q) {f g : Int} (hf : 0 ≤ f ∧ f < 64) (hg : 0 ≤ g ∧ g < 64) (h : cd sn f = cd sn g) : f = g := by
  have h1 := (S.all f hf.1 hf.2).back
  have h2 := (S.all g hg.1 hg.2).back
  rw [h, h2] at h1
  have k1 := (b64v_sg hf.1 hf.2).1
  have k2 := (b64v_sg hg.1 hg.2).1
  rw [← k1, ← h1, k2]
theorem map_cd_inj (S : SgOk sn alt eq comma q) : ∀ {fs gs : List Int}, Six fs → Six gs → fs.map (cd sn) = gs.map (cd sn) → fs = gs
  | [], [], _, _, _ => rfl
  | [], _ :: _, _, _, h => by cases h
  | _ :: _, [], _, _, h => by cases h
  | f :: r, g :: t, hf, hg, h => by
    rw [List.map_cons, List.map_cons] at h
    injection h with h1 h2
    rw [cd_inj S (hf f (.head _)) (hg g (.head _)) h1, map_cd_inj S (fun x hx => hf x (.tail _ hx)) (fun x hx => hg x (.tail _ hx)) h2]
theorem textS_inj (S : SgOk sn alt eq comma q) {fs gs : List Int} (hf : Six fs) (hg : Six gs) (h : textS sn fs = textS sn gs) : fs = gs := by
  apply map_cd_inj S hf hg
  rw [← textS_codes, ← textS_codes, h]
end
end Mine

end
noncomputable section
open PySem PySem.W
set_option maxRecDepth 100000
set_option maxHeartbeats 4000000
namespace Mine
theorem chS_eq2 (a b : Nat) : (chS a == chS b) = (a == b) := by
  rw [Bool.eq_iff_iff, beq_iff_eq, beq_iff_eq]
  constructor
  · intro h
    have : (chS a).cps = (chS b).cps := by rw [h]
    simpa [chS] using this
  · rintro rfl; rfl
theorem pStep_free {res : List Str} {part : Str} {quo : Bool} {c : Nat} (h44 : c ≠ 44) (h92 : c ≠ 92) : pStep ⟨res, part, false, quo⟩ c = ⟨res, part ++ chS c, false, quo ^^ (c == 34)⟩ := by
  have e1 : ("\\" : Str) = chS 92 := rfl
  have e2 : ("\"" : Str) = chS 34 := rfl
  have e3 : ("," : Str) = chS 44 := rfl
  unfold pStep
  rw [e1, e2, e3]
  simp only [chS_eq2]
  have h1 : (c == 92) = false := by simpa using h92
  have h2 : (c == 44) = false := by simpa using h44
  rw [h1, h2]
  by_cases h3 : c = 34
  · subst h3; cases quo <;> rfl
  · have h3 : (c == 34) = false := by simpa using h3
    rw [h3]
    cases quo <;> rfl
theorem codes_append (a b : Str) : (a ++ b).cps.toList = a.cps.toList ++ b.cps.toList := by
  show (a.cps ++ b.cps).toList = _; simp
theorem stripBy_codes (goes : Nat → Bool) (x : Str) : (Txt.stripBy goes true true x).cps.toList = ((x.cps.toList.dropWhile goes).reverse.dropWhile goes).reverse := by
  have key : (PySem.stripped goes true true x).cps.toList = ((x.cps.toList.dropWhile goes).reverse.dropWhile goes).reverse := by
    unfold PySem.stripped
    rw [StrLaws.strSub_toList]
    have hlo : stripLo goes true x = (x.cps.toList.takeWhile goes).length := rfl
    have hhi : stripHi goes true x (stripLo goes true x) = x.length - ((x.cps.toList.drop (stripLo goes true x)).reverse.takeWhile goes).length := rfl
    rw [hhi, hlo]
    have hl : x.length = x.cps.toList.length := by simp [Str.length]
    rw [hl]
    generalize x.cps.toList = l
    have hd : l.drop (l.takeWhile goes).length = l.dropWhile goes := by
      conv => lhs; arg 2; rw [← List.takeWhile_append_dropWhile (p := goes) (l := l)]
      rw [List.drop_left]
    rw [hd]
    have hlen : l.length = (l.takeWhile goes).length + (l.dropWhile goes).length := by
      conv => lhs; rw [← List.takeWhile_append_dropWhile (p := goes) (l := l)]
      rw [List.length_append]
    generalize l.dropWhile goes = m at *
    have hm : m.length = (m.reverse.takeWhile goes).length + (m.reverse.dropWhile goes).length := by
      have := congrArg List.length (List.takeWhile_append_dropWhile (p := goes) (l := m.reverse))
      rw [List.length_append, List.length_reverse] at this
      omega
    have e : m = (m.reverse.dropWhile goes).reverse ++ (m.reverse.takeWhile goes).reverse := by
      rw [← List.reverse_append, List.takeWhile_append_dropWhile, List.reverse_reverse]
    have en : l.length - (m.reverse.takeWhile goes).length - (l.takeWhile goes).length = (m.reverse.dropWhile goes).reverse.length := by
      rw [List.length_reverse]; omega
    rw [en]
    conv => lhs; arg 2; rw [e]
    rw [List.take_left]
  unfold Txt.stripBy
  split
  · rename_i h
    rw [← key]
    unfold stripSame at h
    simp only [Bool.and_eq_true, beq_iff_eq] at h
    unfold PySem.stripped
    rw [StrLaws.strSub_toList, h.2, h.1]
    have hl : x.length = x.cps.toList.length := by simp [Str.length]
    rw [hl, List.drop_zero, Nat.sub_zero, List.take_length]
  · exact key

/-! the parts at a mark -/
noncomputable def consI (x : Int) : List (List Int) → List (List Int)
  | a :: t => (x :: a) :: t
  | [] => [[x]]
noncomputable def splitI (c : Int) : List Int → List (List Int)
  | [] => [[]]
  | x :: r => if x = c then [] :: splitI c r else consI x (splitI c r)
theorem cut_zero (l : List Int) : cut l (some 0) (some 0) = [] := by
  unfold cut
  show (l.drop (clipAt l.length ((0 : Nat) : Int))).take (clipAt l.length ((0 : Nat) : Int) - clipAt l.length ((0 : Nat) : Int)) = []
  rw [Nat.sub_self]; rfl
theorem cut_succ (x : Int) (r : List Int) {s e : Int} (hs : 0 ≤ s) (he : 0 ≤ e) : cut (x :: r) (some (s + 1)) (some (e + 1)) = cut r (some s) (some e) := by
  obtain ⟨s, rfl⟩ := Int.eq_ofNat_of_zero_le hs
  obtain ⟨e, rfl⟩ := Int.eq_ofNat_of_zero_le he
  unfold cut
  show ((x :: r).drop (clipAt (r.length + 1) ((s + 1 : Nat) : Int))).take (clipAt (r.length + 1) ((e + 1 : Nat) : Int) - clipAt (r.length + 1) ((s + 1 : Nat) : Int)) = (r.drop (clipAt r.length ((s : Nat) : Int))).take (clipAt r.length ((e : Nat) : Int) - clipAt r.length ((s : Nat) : Int))
  rw [clipAt_nat, clipAt_nat, clipAt_nat, clipAt_nat, Nat.succ_min_succ, Nat.succ_min_succ, Nat.succ_sub_succ]; rfl
theorem cut_head (x : Int) (r : List Int) {e : Int} (he : 0 ≤ e) : cut (x :: r) (some 0) (some (e + 1)) = x :: cut r (some 0) (some e) := by
  obtain ⟨e, rfl⟩ := Int.eq_ofNat_of_zero_le he
  unfold cut
  show ((x :: r).drop (clipAt (r.length + 1) ((0 : Nat) : Int))).take (clipAt (r.length + 1) ((e + 1 : Nat) : Int) - clipAt (r.length + 1) ((0 : Nat) : Int)) = x :: (r.drop (clipAt r.length ((0 : Nat) : Int))).take (clipAt r.length ((e : Nat) : Int) - clipAt r.length ((0 : Nat) : Int))
  rw [clipAt_nat, clipAt_nat, clipAt_nat, clipAt_nat, Nat.succ_min_succ, Nat.zero_min, Nat.zero_min]; rfl
noncomputable def AL (fs : List Int) (s : Int) (E : List Int) : List (List Int) := ((s :: E.map (· + 1)).zip E).map fun p => cut fs (some p.1) (some p.2)
theorem AL_cons (fs : List Int) (s e : Int) (t : List Int) : AL fs s (e :: t) = cut fs (some s) (some e) :: AL fs (e + 1) t := rfl
theorem AL_succ (x : Int) (r : List Int) : ∀ (E : List Int) (s : Int), 0 ≤ s → (∀ e ∈ E, 0 ≤ e) → AL (x :: r) (s + 1) (E.map (· + 1)) = AL r s E
  | [], s, _, _ => rfl
  | e :: t, s, hs, h => by
    have he := h e (.head _)
    rw [List.map_cons, AL_cons, AL_cons, cut_succ x r hs he, AL_succ x r t (e + 1) (by omega) fun y hy => h y (.tail _ hy)]
theorem AL_head (x : Int) (r : List Int) {e : Int} {t : List Int} (h : ∀ y ∈ e :: t, 0 ≤ y) : AL (x :: r) 0 ((e :: t).map (· + 1)) = consI x (AL r 0 (e :: t)) := by
  have he := h e (.head _)
  rw [List.map_cons, AL_cons, AL_cons, cut_head x r he, AL_succ x r t (e + 1) (by omega) fun y hy => h y (.tail _ hy)]
  rfl
theorem places_shift (c : Int) : ∀ (l : List Int) (n : Nat), ((l.zipIdx (n + 1)).filterMap fun p => if (p.1 == c) = true then some (p.2 : Int) else none) = ((l.zipIdx n).filterMap fun p => if (p.1 == c) = true then some (p.2 : Int) else none).map (· + 1)
  | [], n => rfl
  | x :: r, n => by
    rw [List.zipIdx_cons, List.zipIdx_cons, List.filterMap_cons, List.filterMap_cons, places_shift c r (n + 1)]
    by_cases h : (x == c) = true
    · simp only [h, if_true, List.map_cons]
      congr 1
    · simp only [h]; rfl
theorem ends_cons (c x : Int) (r : List Int) : endsP c (x :: r) = if x = c then 0 :: (endsP c r).map (· + 1) else (endsP c r).map (· + 1) := by
  unfold endsP placesI
  rw [List.zipIdx_cons, List.filterMap_cons, places_shift c r 0, List.map_append]
  have hl : ([((x :: r).length : Int)] : List Int) = [(r.length : Int)].map (· + 1) := rfl
  rw [hl]
  by_cases h : x = c
  · rw [if_pos h]
    simp only [h, beq_self_eq_true, if_true]
    rfl
  · have h' : (x == c) = false := by simpa using h
    rw [if_neg h]
    simp only [h']
    rfl
theorem ends_nonneg (c : Int) : ∀ (l : List Int), ∀ e ∈ endsP c l, 0 ≤ e
  | [], e, h => by
    have : endsP c [] = [0] := rfl
    rw [this, List.mem_singleton] at h; omega
  | x :: r, e, h => by
    rw [ends_cons] at h
    have key : ∀ e ∈ (endsP c r).map (· + 1), 0 ≤ e := fun e h => by
      obtain ⟨y, hy, rfl⟩ := List.mem_map.mp h
      have := ends_nonneg c r y hy
      omega
    split at h
    · rcases List.mem_cons.mp h with rfl | h
      · exact Int.le_refl 0
      · exact key e h
    · exact key e h
theorem ends_ne (c : Int) (l : List Int) : ∃ e t, endsP c l = e :: t := by
  unfold endsP
  cases placesI c l with
  | nil => exact ⟨_, _, rfl⟩
  | cons a r => exact ⟨_, _, rfl⟩
theorem allP_eq (c : Int) : ∀ (l : List Int), allP c l = splitI c l
  | [] => rfl
  | x :: r => by
    have ih := allP_eq c r
    have e0 : allP c (x :: r) = AL (x :: r) 0 (endsP c (x :: r)) := rfl
    have e1 : allP c r = AL r 0 (endsP c r) := rfl
    have hn := ends_nonneg c r
    rw [e0, ends_cons]
    unfold splitI
    by_cases h : x = c
    · rw [if_pos h, if_pos h, AL_cons, cut_zero, AL_succ x r _ 0 (Int.le_refl 0) hn, ← e1, ih]
    · obtain ⟨e, t, he⟩ := ends_ne c r
      rw [if_neg h, if_neg h]
      rw [he] at hn e1 ⊢
      rw [AL_head x r hn, ← e1, ih]
noncomputable def fixI (l : List (List Int)) : List (List Int) := if l.getLast? = some [] then l.dropLast else l
theorem piecesP_eq (c : Int) (l : List Int) : piecesP c l = fixI (splitI c l) := by unfold piecesP fixI; rw [allP_eq]
theorem split_ne (c : Int) : ∀ l : List Int, ∃ a t, splitI c l = a :: t
  | [] => ⟨_, _, rfl⟩
  | x :: r => by
    obtain ⟨a, t, e⟩ := split_ne c r
    unfold splitI
    rw [e]
    split
    · exact ⟨_, _, rfl⟩
    · exact ⟨_, _, rfl⟩
theorem split_mem (c : Int) : ∀ (l : List Int), ∀ a ∈ splitI c l, ∀ f ∈ a, f ∈ l
  | [], a, ha, f, hf => by
    rw [splitI, List.mem_singleton] at ha
    subst ha; cases hf
  | x :: r, a, ha, f, hf => by
    have ih := split_mem c r
    obtain ⟨b, t, e⟩ := split_ne c r
    unfold splitI at ha
    rw [e] at ha ih
    split at ha
    · rcases List.mem_cons.mp ha with rfl | ha
      · cases hf
      · exact .tail _ (ih a ha f hf)
    · rcases List.mem_cons.mp ha with rfl | ha
      · rcases List.mem_cons.mp hf with rfl | hf
        · exact .head _
        · exact .tail _ (ih b (.head _) f hf)
      · exact .tail _ (ih a (.tail _ ha) f hf)
theorem split_sum (c : Int) : ∀ (l : List Int), ((splitI c l).map List.length).sum ≤ l.length
  | [] => Nat.le_refl 0
  | x :: r => by
    have ih := split_sum c r
    obtain ⟨b, t, e⟩ := split_ne c r
    unfold splitI
    rw [e] at ih ⊢
    rw [List.map_cons, List.sum_cons] at ih
    split
    · rw [List.map_cons, List.map_cons, List.sum_cons, List.sum_cons, List.length_cons, List.length_nil]; omega
    · unfold consI
      rw [List.map_cons, List.sum_cons, List.length_cons, List.length_cons]; omega
theorem fix_mem {l : List (List Int)} {a : List Int} (h : a ∈ fixI l) : a ∈ l := by
  unfold fixI at h
  split at h
  · exact (List.dropLast_sublist l).subset h
  · exact h
theorem dropLast_sum : ∀ (l : List (List Int)), (l.dropLast.map List.length).sum ≤ (l.map List.length).sum
  | [] => Nat.le_refl 0
  | [a] => Nat.zero_le _
  | a :: b :: r => by
    have := dropLast_sum (b :: r)
    rw [List.dropLast_cons_cons, List.map_cons, List.sum_cons, List.map_cons (l := b :: r), List.sum_cons]
    omega
theorem fix_sum (l : List (List Int)) : ((fixI l).map List.length).sum ≤ (l.map List.length).sum := by
  unfold fixI
  split
  · exact dropLast_sum l
  · exact Nat.le_refl _
theorem pieces_mem {c : Int} {l a : List Int} (h : a ∈ piecesP c l) : ∀ f ∈ a, f ∈ l := by
  rw [piecesP_eq] at h
  exact split_mem c l a (fix_mem h)
theorem pieces_sum (c : Int) (l : List Int) : ((piecesP c l).map List.length).sum ≤ l.length := by
  rw [piecesP_eq]
  exact Nat.le_trans (fix_sum _) (split_sum c l)
/-! the same by the texts -/
noncomputable def fixS (l : List Str) : List Str := if l.getLast? = some ("" : Str) then l.dropLast else l
noncomputable def glueS (sn : Str) (part : Str) : List (List Int) → List Str
  | a :: t => (part ++ textS sn a) :: t.map (textS sn)
  | [] => [part]
theorem fixS_cons (a b : Str) (r : List Str) : fixS (a :: b :: r) = a :: fixS (b :: r) := by
  unfold fixS
  rw [List.getLast?_cons_cons, List.dropLast_cons_cons]
  split <;> rfl
theorem text_nil (sn : Str) : textS sn [] = "" := rfl
theorem add_nil (a : Str) : a ++ ("" : Str) = a := str_ext (by rw [codes_append]; have : ("" : Str).cps.toList = [] := rfl; rw [this, List.append_nil])
theorem nil_add (a : Str) : ("" : Str) ++ a = a := str_ext (by rw [codes_append]; have : ("" : Str).cps.toList = [] := rfl; rw [this, List.nil_append])
theorem text_empty {sn : Str} {a : List Int} : textS sn a = "" ↔ a = [] := by
  constructor
  · intro h
    have : (textS sn a).cps.toList = [] := by rw [h]; rfl
    rw [textS_codes] at this
    exact List.map_eq_nil_iff.mp this
  · rintro rfl; rfl
theorem fix_text (sn : Str) (l : List (List Int)) : fixS (l.map (textS sn)) = (fixI l).map (textS sn) := by
  unfold fixS fixI
  rw [List.getLast?_map]
  cases h : l.getLast? with
  | none => rfl
  | some a =>
    rw [Option.map_some]
    by_cases ha : a = []
    · subst ha; rw [if_pos (congrArg some (text_nil sn)), if_pos rfl, List.map_dropLast]
    · rw [if_neg fun e => ha (text_empty.mp (Option.some.inj e)), if_neg fun e => ha (Option.some.inj e)]
theorem glue_nil (sn : Str) {l : List (List Int)} (h : ∃ a t, l = a :: t) : glueS sn "" l = l.map (textS sn) := by
  obtain ⟨a, t, rfl⟩ := h
  show (("" : Str) ++ textS sn a) :: t.map (textS sn) = _
  rw [nil_add]; rfl
theorem pEnd_is (res : List Str) (part : Str) (quo : Bool) : pEnd ⟨res, part, false, quo⟩ = res ++ fixS [part] := by
  unfold pEnd fixS
  have : ((part.length : Int) != 0) = true ↔ ¬ part = "" := by
    rw [bne_iff_ne]
    constructor
    · rintro h rfl; exact h rfl
    · intro h h0
      apply h
      apply str_ext
      have : part.cps.size = 0 := by exact_mod_cast h0
      have e : part.cps = #[] := Array.eq_empty_of_size_eq_zero this
      rw [e]; rfl
  by_cases h : part = ""
  · rw [if_neg fun q => this.mp q h]
    subst h; simp
  · rw [if_pos (this.mpr h)]
    have : ¬ ([part].getLast? = some ("" : Str)) := fun e => h (Option.some.inj e)
    rw [if_neg this]
section
variable {sn : Str} {alt : Array UInt8} {eq comma q : Int}
theorem run_marks (S : SgOk sn alt eq comma q) : ∀ (fs : List Int) (res : List Str) (part : Str) (quo : Bool), Six fs → (quo = true → comma = -1) →
    pEnd ((fs.map (cd sn)).foldl pStep ⟨res, part, false, quo⟩) = res ++ fixS (glueS sn part (splitI comma fs))
  | [], res, part, quo, _, _ => by
    show pEnd ⟨res, part, false, quo⟩ = res ++ fixS [part ++ textS sn []]
    rw [pEnd_is, text_nil, add_nil]
  | x :: r, res, part, quo, h, hq => by
    have hx := h x (.head _)
    have A := S.all x hx.1 hx.2
    have hr : Six r := fun y hy => h y (.tail _ hy)
    obtain ⟨a, t, e⟩ := split_ne comma r
    rw [List.map_cons, List.foldl_cons]
    unfold splitI
    by_cases hc : x = comma
    · have h44 : cd sn x = 44 := by
        have := A.comma
        rw [hc, beq_self_eq_true] at this
        rw [hc]; simpa using this
      have hquo : quo = false := by
        cases quo with
        | false => rfl
        | true => have := hq rfl; omega
      subst hquo
      have hs : pStep ⟨res, part, false, false⟩ 44 = ⟨res ++ [part], "", false, false⟩ := rfl
      rw [h44, hs, run_marks S r _ _ _ hr (fun q => by cases q), if_pos hc, glue_nil sn ⟨a, t, e⟩, e]
      show _ = res ++ fixS ((part ++ textS sn []) :: textS sn a :: t.map (textS sn))
      rw [fixS_cons, text_nil, add_nil, List.append_assoc]; rfl
    · have h44 : cd sn x ≠ 44 := fun e => by
        have := A.comma
        rw [e, beq_self_eq_true] at this
        exact hc (by simpa using this.symm)
      rw [pStep_free h44 A.slash, run_marks S r _ _ _ hr ?_, if_neg hc, e]
      · show _ = res ++ fixS ((part ++ textS sn (x :: a)) :: t.map (textS sn))
        have : part ++ chS (cd sn x) ++ textS sn a = part ++ textS sn (x :: a) := str_ext (by
          rw [codes_append, codes_append, codes_append, textS_codes, textS_codes, List.map_cons, List.append_assoc]; rfl)
        rw [← this]; rfl
      · intro hq'
        cases quo with
        | true => exact hq rfl
        | false =>
          rw [A.q, Bool.false_xor] at hq'
          have : x = q := by simpa using hq'
          rcases S.one with h | h
          · exact h
          · omega
theorem dropWhile_none {p : Nat → Bool} {l : List Nat} (h : ∀ c ∈ l, p c = false) : l.dropWhile p = l := by
  cases l with
  | nil => rfl
  | cons c r => rw [List.dropWhile_cons, h c (.head _)]; rfl
theorem strip_text (S : SgOk sn alt eq comma q) {a : List Int} (h : Six a) : Txt.strip (textS sn a) = textS sn a := by
  have key : ∀ c ∈ a.map (cd sn), Unicode.isSpace c = false := fun c hc => by
    obtain ⟨f, hf, rfl⟩ := List.mem_map.mp hc
    have r := h f hf
    exact (S.all f r.1 r.2).space
  apply str_ext
  unfold Txt.strip
  rw [stripBy_codes, textS_codes, dropWhile_none key, dropWhile_none fun c hc => key c (List.mem_reverse.mp hc), List.reverse_reverse]
theorem phl_text (S : SgOk sn alt eq comma q) {fs : List Int} (h : Six fs) : phl (textS sn fs) = (piecesP comma fs).map (textS sn) := by
  unfold phl pRun
  rw [textS_codes, run_marks S fs [] "" false h (fun q => by cases q), List.nil_append, glue_nil sn (split_ne comma fs), fix_text, ← piecesP_eq, List.map_map]
  apply List.map_congr_left
  intro a ha
  exact strip_text S fun f hf => h f (pieces_mem ha f hf)
end
end Mine

end
noncomputable section
open PySem PySem.W
set_option maxRecDepth 100000
set_option maxHeartbeats 4000000
namespace Mine
noncomputable def ofC (l : List Nat) : Str := ⟨l.toArray⟩
theorem ofC_codes (l : List Nat) : (ofC l).cps.toList = l := by simp [ofC]
theorem ofC_eq (x : Str) : x = ofC x.cps.toList := by cases x; simp [ofC]
theorem ofC_len (l : List Nat) : (ofC l).length = l.length := by show l.toArray.size = _; simp
theorem at1 {x : Str} {c i : Nat} : StrLaws.At x (chS c) x.length i ↔ x.cps.toList[i]? = some c := by
  unfold StrLaws.At
  rw [StrLaws.subAt_eq]
  have h1 : (chS c).length = 1 := rfl
  have h2 : (chS c).cps.toList = [c] := rfl
  rw [h1, h2]
  have hl : x.length = x.cps.toList.length := by simp [Str.length]
  rw [hl]
  generalize x.cps.toList = l
  constructor
  · rintro ⟨hi, h⟩
    have h := eq_of_beq h
    have : ((l.drop i).take 1)[0]? = some c := by rw [h]; rfl
    rw [List.getElem?_take, List.getElem?_drop] at this
    simpa using this
  · intro h
    obtain ⟨hi, hc⟩ := List.getElem?_eq_some_iff.mp h
    refine ⟨by omega, ?_⟩
    rw [List.drop_eq_getElem_cons hi, hc]; simp
theorem kind_eq : Builtin.Str.strKind "=" = 1 := by decide +kernel
theorem kind_pos (x : Str) : 1 ≤ Builtin.Str.strKind x := by unfold Builtin.Str.strKind; split <;> (try split) <;> decide
theorem eq_sign : ("=" : Str) = chS 61 := rfl
theorem split_at {l1 l2 : List Nat} (h : 61 ∉ l1) : Txt.splitMax (ofC (l1 ++ 61 :: l2)) "=" 1 = [ofC l1, ofC l2] := by
  have hlen : (ofC (l1 ++ 61 :: l2)).length = l1.length + (l2.length + 1) := by rw [ofC_len]; simp
  unfold Txt.splitMax
  have h0 : (decide ((ofC (l1 ++ 61 :: l2)).length < ("=" : Str).length) || decide (Builtin.Str.strKind (ofC (l1 ++ 61 :: l2)) < Builtin.Str.strKind "=")) = false := by
    have := kind_pos (ofC (l1 ++ 61 :: l2))
    rw [kind_eq, hlen]
    have h1 : ("=" : Str).length = 1 := rfl
    rw [h1]
    simp; omega
  rw [h0, if_neg (by decide)]
  have hlim : limitOf (ofC (l1 ++ 61 :: l2)) 1 = 1 := rfl
  rw [hlim]
  have hle := StrLaws.occ_length_le (ofC (l1 ++ 61 :: l2)) "=" 0 (ofC (l1 ++ 61 :: l2)).length 1
  have key := StrLaws.occ_head (ofC (l1 ++ 61 :: l2)) "=" 1 (Nat.le_refl _)
  rw [eq_sign] at key hle ⊢
  simp only [at1, ofC_codes] at key
  have hat : (l1 ++ 61 :: l2)[l1.length]? = some 61 := by simp
  rcases key with ⟨_, hno⟩ | ⟨i, r, hocc, hi, hmin⟩
  · exact absurd hat (hno _)
  · have hil : i = l1.length := by
      rcases Nat.lt_trichotomy i l1.length with hlt | heq | hgt
      · rw [List.getElem?_append_left hlt] at hi
        exact absurd (List.mem_of_getElem? hi) h
      · exact heq
      · exact absurd hat (hmin _ hgt)
    rw [hocc] at hle ⊢
    have hr : r = [] := by cases r with | nil => rfl | cons a t => simp at hle
    subst hr
    subst hil
    rw [if_neg (by simp)]
    have h1 : (chS 61).length = 1 := rfl
    rw [h1, StrLaws.partsBetween_eq]
    show [Builtin.Str.strSub (ofC (l1 ++ 61 :: l2)) 0 l1.length, Builtin.Str.strSub (ofC (l1 ++ 61 :: l2)) (l1.length + 1) (ofC (l1 ++ 61 :: l2)).length] = _
    have e1 : Builtin.Str.strSub (ofC (l1 ++ 61 :: l2)) 0 l1.length = ofC l1 := by
      rw [ofC_eq (Builtin.Str.strSub _ _ _), StrLaws.strSub_toList, ofC_codes]; simp
    have e2 : Builtin.Str.strSub (ofC (l1 ++ 61 :: l2)) (l1.length + 1) (ofC (l1 ++ 61 :: l2)).length = ofC l2 := by
      rw [ofC_eq (Builtin.Str.strSub _ _ _), StrLaws.strSub_toList, ofC_codes, hlen]
      have e : (l1 ++ 61 :: l2).drop (l1.length + 1) = l2 := by
        rw [← List.drop_drop, List.drop_left]; rfl
      rw [e, List.take_of_length_le (by omega)]
    rw [e1, e2]
theorem split_no {l : List Nat} (h : 61 ∉ l) : Txt.splitMax (ofC l) "=" 1 = [ofC l] := by
  unfold Txt.splitMax
  split
  · rfl
  have hlim : limitOf (ofC l) 1 = 1 := rfl
  rw [hlim]
  have key := StrLaws.occ_head (ofC l) "=" 1 (Nat.le_refl _)
  rw [eq_sign] at key ⊢
  simp only [at1, ofC_codes] at key
  rcases key with ⟨h0, _⟩ | ⟨i, r, hocc, hi, hmin⟩
  · rw [h0]; rfl
  · exact absurd (List.mem_of_getElem? hi) h
theorem chS_quote (c : Nat) : (chS c == "\"") = (c == 34) := by
  have e : ("\"" : Str) = chS 34 := rfl
  rw [e]
  rw [Bool.eq_iff_iff, beq_iff_eq, beq_iff_eq]
  constructor
  · intro h
    have : (chS c).cps = (chS 34).cps := by rw [h]
    simpa [chS] using this
  · rintro rfl; rfl
noncomputable def kqV (k v : List Nat) : String ⊕ (Str × Str) := match v with
  | [] => .inl "IndexError"
  | c :: r => if ((c == 34) && ((c :: r).getD r.length 0 == 34)) = true then .inr (ofC k, Txt.slice (ofC (c :: r)) (some 1) (some (-1))) else .inr (ofC k, ofC (c :: r))
theorem kq_of {t : Str} {k v : List Nat} (hs : Txt.splitMax t "=" 1 = [ofC k, ofC v]) : kqElt t = kqV k v := by
  unfold kqElt kqV
  rw [hs]
  cases v with
  | nil => rfl
  | cons c r =>
    have h0 : (ofC (c :: r)).cps[0]? = some c := by simp [ofC]
    have h1 : (ofC (c :: r)).cps.getD ((ofC (c :: r)).cps.size - 1) 0 = (c :: r).getD r.length 0 := by
      simp [ofC, Array.getD_eq_getD_getElem?, List.getD_eq_getElem?_getD]
    simp only [h0, h1, chS_quote]
theorem put_cons (q : PP) (r : List PP) (p : PP) : put (q :: r) p = if q.1 = p.1 then p :: r else q :: put r p := by
  unfold put
  rw [List.findIdx?_cons]
  by_cases h : q.1 = p.1
  · rw [if_pos h]; simp [h]
  · have : (q.1 == p.1) = false := by simpa using h
    rw [if_neg h]
    simp only [this]
    cases List.findIdx? (fun x => x.1 == p.1) r with
    | none => rfl
    | some i => rfl
theorem put_keys (p : PP) : ∀ (l : List PP) (k : List Int), k ∈ (put l p).map (·.1) → k ∈ l.map (·.1) ∨ k = p.1
  | [], k, h => by
    have : put [] p = [p] := rfl
    rw [this] at h
    simp at h; exact .inr h
  | q :: r, k, h => by
    rw [put_cons] at h
    split at h
    · rename_i e
      rw [List.map_cons, List.mem_cons] at h
      rcases h with h | h
      · exact .inr h
      · exact .inl (.tail _ h)
    · rw [List.map_cons, List.mem_cons] at h
      rcases h with h | h
      · exact .inl (by rw [h]; exact .head _)
      · rcases put_keys p r k h with h | h
        · exact .inl (.tail _ h)
        · exact .inr h
theorem put_nodup (p : PP) : ∀ (l : List PP), (l.map (·.1)).Nodup → ((put l p).map (·.1)).Nodup
  | [], h => by
    have : put [] p = [p] := rfl
    rw [this]; simp
  | q :: r, h => by
    rw [put_cons]
    rw [List.map_cons, List.nodup_cons] at h
    split
    · rename_i e
      rw [List.map_cons, List.nodup_cons, ← e]; exact h
    · rename_i e
      rw [List.map_cons, List.nodup_cons]
      refine ⟨fun hm => ?_, put_nodup p r h.2⟩
      rcases put_keys p r _ hm with h1 | h1
      · exact h.1 h1
      · exact e h1
theorem dput_cons (p : Str × Str) (r : List (Str × Str)) (k v : Str) (hn : p.1 = k → ∀ q ∈ r, q.1 ≠ k) : dput (p :: r) k v = if p.1 = k then (k, v) :: r else p :: dput r k v := by
  unfold dput
  rw [List.any_cons]
  by_cases h : p.1 = k
  · have hm : r.map (fun p => if p.1 = k then (p.1, v) else p) = r :=
      (List.map_congr_left fun q hq => if_neg (hn h q hq)).trans (List.map_id' r)
    rw [if_pos h, if_pos (by simp [h]), List.map_cons, if_pos h, hm, h]
  · rw [if_neg h]
    simp only [h, decide_false, Bool.false_or, List.map_cons, if_false]
    split <;> simp
theorem slice_one (l : List Nat) : Txt.slice (ofC l) (some 1) (some (-1)) = ofC (cut l (some 1) (some (-1))) := by
  match l with
  | [] => rfl
  | [a] => rfl
  | a :: b :: r =>
    have hl : (ofC (a :: b :: r)).length = r.length + 2 := by rw [ofC_len]; rfl
    have e := StrLaws.sliceIdx_neg_hi (some 1) (j := -1) (r.length + 2) (by decide) (by omega)
    have e2 : (-1 : Int) + ((r.length + 2 : Nat) : Int) = ((r.length + 1 : Nat) : Int) := by omega
    rw [e2] at e
    have k := StrLaws.sliced_plain (ofC (a :: b :: r)) (a := 1) (b := r.length + 1) (by omega) (by rw [hl]; omega)
    have len := StrLaws.strSliceIndices_plain (a := 1) (b := r.length + 1) (len := r.length + 2) (by omega) (by omega)
    have ec : cut (a :: b :: r) (some 1) (some (-1)) = ((a :: b :: r).drop 1).take (r.length + 1 - 1) := by
      unfold cut
      have h1 : clipAt (a :: b :: r).length 1 = 1 := by
        have := clipAt_nat (r.length + 2) 1
        have e : (a :: b :: r).length = r.length + 2 := rfl
        rw [e]
        show clipAt (r.length + 2) ((1 : Nat) : Int) = 1
        rw [this]; omega
      have h2 : clipAt (a :: b :: r).length (-1) = r.length + 1 := by
        have := clipAt_neg (r.length + 2) 1 (Nat.le_refl 1)
        exact this
      simp only [Option.elim_some, h1, h2]
    rw [hl] at k
    unfold Txt.slice
    rw [hl, e]
    have e3 : (some ((1 : Nat) : Int) : Option Int) = some 1 := rfl
    rw [e3] at k len
    rw [k, len, List.length_map, List.length_range, if_neg (by simp), ec, ofC_codes]
    rfl
theorem text_ofC (sn : Str) (fs : List Int) : textS sn fs = ofC (fs.map (cd sn)) := rfl
theorem idx_split {e : Int} : ∀ {l : List Int}, e ∈ l → l = l.take (l.idxOf e) ++ e :: l.drop (l.idxOf e + 1) ∧ e ∉ l.take (l.idxOf e)
  | x :: r, h => by
    rw [List.idxOf_cons]
    by_cases hx : x = e
    · have : (x == e) = true := by simpa using hx
      rw [this, hx]
      exact ⟨rfl, fun q => by cases q⟩
    · have hb : (x == e) = false := by simpa using hx
      have hm : e ∈ r := by
        rcases List.mem_cons.mp h with q | q
        · exact absurd q.symm hx
        · exact q
      obtain ⟨h1, h2⟩ := idx_split hm
      rw [hb]
      simp only [cond_false, List.take_succ_cons, List.drop_succ_cons, List.cons_append]
      exact ⟨by rw [← h1], fun q => by
        rcases List.mem_cons.mp q with q | q
        · exact hx q.symm
        · exact h2 q⟩
noncomputable def EltS (sn : Str) (t : Str) : Str ⊕ PP → Prop
  | .inl e => ∃ X, kqElt t = .inl X ∧ Str.ofString X = e
  | .inr p => kqElt t = .inr (textS sn p.1, textS sn p.2)
section
variable {sn : Str} {alt : Array UInt8} {eq comma q : Int}
theorem no61 (S : SgOk sn alt eq comma q) {l : List Int} (h : Six l) (hn : eq ∉ l) : 61 ∉ l.map (cd sn) := fun hm => by
  obtain ⟨f, hf, e⟩ := List.mem_map.mp hm
  have r := h f hf
  have := (S.all f r.1 r.2).eq
  rw [e, beq_self_eq_true] at this
  have : f = eq := by simpa using this.symm
  exact hn (this ▸ hf)
theorem elt_due (S : SgOk sn alt eq comma q) {l : List Int} (h : Six l) : EltS sn (textS sn l) (dueP eq q l) := by
  unfold dueP
  by_cases hm : eq ∈ l
  · have hc : (!l.contains eq) = false := by simpa using hm
    rw [hc, if_neg (by decide)]
    obtain ⟨h1, h2⟩ := idx_split hm
    generalize l.take (l.idxOf eq) = a at h1 h2 ⊢
    generalize l.drop (l.idxOf eq + 1) = b at h1 ⊢
    have ha : Six a := fun x hx => h x (by rw [h1]; exact List.mem_append_left _ hx)
    have hb : Six b := fun x hx => h x (by rw [h1]; exact List.mem_append_right _ (.tail _ hx))
    have hs : Txt.splitMax (textS sn l) "=" 1 = [ofC (a.map (cd sn)), ofC (b.map (cd sn))] := by
      rw [text_ofC, h1, List.map_append, List.map_cons, S.eq61]
      exact split_at (no61 S ha h2)
    have kq := kq_of hs
    cases b with
    | nil =>
      rw [if_pos rfl]
      exact ⟨"IndexError", kq, rfl⟩
    | cons f r =>
      rw [if_neg (by simp)]
      obtain ⟨z, hz⟩ : ∃ z, (f :: r)[r.length]? = some z := ⟨_, List.getElem?_eq_getElem (by simp)⟩
      have hzm := List.mem_of_getElem? hz
      have hlast : (f :: r).getLast? = some z := by rw [List.getLast?_eq_getElem?]; exact hz
      have hd : (cd sn f :: r.map (cd sn)).getD (r.map (cd sn)).length 0 = cd sn z := by
        rw [List.length_map, List.getD_eq_getElem?_getD, ← List.map_cons, List.getElem?_map, hz]; rfl
      have hf := hb f (.head _)
      have hz' := hb z hzm
      have kf := (S.all f hf.1 hf.2).q
      have kz := (S.all z hz'.1 hz'.2).q
      have hv : kqV (a.map (cd sn)) ((f :: r).map (cd sn)) = if ((f == q) && (z == q)) = true then .inr (ofC (a.map (cd sn)), Txt.slice (ofC ((f :: r).map (cd sn))) (some 1) (some (-1))) else .inr (ofC (a.map (cd sn)), ofC ((f :: r).map (cd sn))) := by
        rw [List.map_cons]
        unfold kqV
        simp only [hd, kf, kz]
      rw [hv] at kq
      rw [hlast, List.head?_cons]
      by_cases hfz : f = q ∧ z = q
      · have c1 : ((f == q) && (z == q)) = true := by rw [hfz.1, hfz.2]; simp
        have c2 : some f = some q ∧ some z = some q := ⟨congrArg some hfz.1, congrArg some hfz.2⟩
        rw [c1, if_pos rfl, slice_one, cut_map] at kq
        rw [if_pos c2]
        exact kq
      · have c1 : ((f == q) && (z == q)) = false := by
          rw [Bool.and_eq_false_iff]
          by_cases hfq : f = q
          · exact .inr (by simpa using fun e => hfz ⟨hfq, e⟩)
          · exact .inl (by simpa using hfq)
        have c2 : ¬ (some f = some q ∧ some z = some q) := fun e => hfz ⟨Option.some.inj e.1, Option.some.inj e.2⟩
        rw [c1, if_neg (by decide)] at kq
        rw [if_neg c2]
        exact kq
  · have hc : (!l.contains eq) = true := by simpa using hm
    rw [hc, if_pos rfl]
    refine ⟨"ValueError", ?_, rfl⟩
    unfold kqElt
    rw [text_ofC, split_no (no61 S h hm)]
noncomputable def T2 (sn : Str) (p : PP) : Str × Str := (textS sn p.1, textS sn p.2)
theorem dput_put (S : SgOk sn alt eq comma q) {a b : List Int} (ha : Six a) : ∀ {known : List PP}, (∀ p ∈ known, Six p.1) → (known.map (·.1)).Nodup → dput (known.map (T2 sn)) (textS sn a) (textS sn b) = (put known (a, b)).map (T2 sn)
  | [], _, _ => rfl
  | p :: r, h, hn => by
    have hp := h p (.head _)
    have hr : ∀ x ∈ r, Six x.1 := fun x hx => h x (.tail _ hx)
    rw [List.map_cons, List.nodup_cons] at hn
    have hiff : (T2 sn p).1 = textS sn a ↔ p.1 = a := ⟨fun e => textS_inj S hp ha e, fun e => by rw [← e]; rfl⟩
    rw [put_cons, List.map_cons, dput_cons _ _ _ _ ?_]
    · by_cases e : p.1 = a
      · rw [if_pos e, if_pos (hiff.mpr e)]; rfl
      · rw [if_neg e, if_neg fun x => e (hiff.mp x), dput_put S ha hr hn.2]; rfl
    · intro e x hx
      obtain ⟨y, hy, rfl⟩ := List.mem_map.mp hx
      intro e2
      have : y.1 = a := textS_inj S (hr y hy) ha e2
      exact hn.1 (by rw [hiff.mp e, ← this]; exact List.mem_map.mpr ⟨y, hy, rfl⟩)
theorem told_go (S : SgOk sn alt eq comma q) : ∀ (qs : List (List Int)) (known : List PP), (∀ x ∈ qs, Six x) → (∀ p ∈ known, Six p.1) → (known.map (·.1)).Nodup →
    ToldOk sn (kqGo (qs.map (textS sn)) (known.map (T2 sn))) (merged (qs.map (dueP eq q)) known)
  | [], known, _, _, _ => .ok known
  | x :: r, known, h, hk, hn => by
    have hx := h x (.head _)
    have e := elt_due S hx
    rw [List.map_cons, List.map_cons]
    cases hd : dueP eq q x with
    | inl m =>
      rw [hd] at e
      obtain ⟨X, e1, e2⟩ := e
      have : kqGo (textS sn x :: r.map (textS sn)) (known.map (T2 sn)) = .inl X := by unfold kqGo; rw [e1]
      rw [this, ← e2]
      exact .err X
    | inr p =>
      rw [hd] at e
      have e1 : kqElt (textS sn x) = .inr (textS sn p.1, textS sn p.2) := e
      have hp : Six p.1 := fun f hf => hx f ((due_ok hd).1 f hf)
      have : kqGo (textS sn x :: r.map (textS sn)) (known.map (T2 sn)) = kqGo (r.map (textS sn)) ((put known p).map (T2 sn)) := by
        conv => lhs; unfold kqGo
        rw [e1]
        simp only
        rw [dput_put S hp hk hn]
      rw [this, merged]
      refine told_go S r _ (fun y hy => h y (.tail _ hy)) (fun y hy => ?_) (put_nodup p known hn)
      rcases put_keys p known y.1 (List.mem_map.mpr ⟨y, hy, rfl⟩) with k | k
      · obtain ⟨z, hz, e⟩ := List.mem_map.mp k
        rw [← e]; exact hk z hz
      · rw [k]; exact hp
theorem math_of {pair : Str} (S : SgOk (sgBase ++ pair) (asBytes pair) eq comma q) {row : Array UInt8} (hl : row.size ≤ 21) : Math01 pair eq comma q row where
  ascii := enc_ascii S row
  http := by rw [enc_text S row]; exact phl_text S (shown_six S row)
  insg := (six_insg S).mp (shown_six S row)
  tot := Nat.le_trans (pieces_sum comma _) (shown_len _ _ (by rw [octs_len]; exact hl))
  told := fun qs hq => told_go S qs [] (fun x hx f hf => shown_six S row f (pieces_mem (hq x hx) f hf)) (fun p hp => by cases hp) (by simp)
  dec := fun fs h hl => dec_text S ((six_insg S).mpr h) hl
end
theorem all01 (ns : List Int) : All01 ns := ⟨math_of sgn0 (rowA_size _ _), math_of sgn1 (rowA_size _ _), math_of sgn2 (rowA_size _ _), math_of sgn3 (rowA_size _ _)⟩
theorem done01 : PySem.Challenge.rw_pa0012_01.Holds := holds01 all01
end Mine

end
set_option maxRecDepth 100000 in
theorem PySem.Challenge.cw_pa0012_01_holds : PySem.Challenge.rw_pa0012_01.Holds := by
  exact Mine.done01
