import PyProof.Rows.All
import Wide.All
import OpenK.AllK
import Wide.FinOn
import PyProof.FactsAll.tuple_2
import PySem.Challenge.RW_dm0263_11
set_option Elab.async false
set_option maxHeartbeats 4000000
set_option maxRecDepth 100000
open PySem PySem.W PyProof.Rows
namespace Mine

/-- nothing that stands is changed -/
abbrev StIn (h h' : Heap) : Prop := ∀ b o, h.get? b = some o → h'.get? b = some o

theorem StIn.refl (h : Heap) : StIn h h := fun _ _ e => e
theorem StIn.trans {a b c : Heap} (x : StIn a b) (y : StIn b c) : StIn a c := fun p o e => y p o (x p o e)
theorem StIn.push (h : Heap) (o : Obj) : StIn h (h.push o) := fun _ _ e => Heap.get?_push_of_some o e

/-- abstract values -/
inductive AV where
  | int (i : Int)
  | bool (b : Bool)
  | none
  | str (s : Str)
  | ty (n : String)
  | bi (n : String)
  | rng (a b c : Int)
  | tup (l : List AV)
  | lst (l : List AV)

mutual
def RelV (X : List Addr) (h : Heap) : AV → Value → Prop
  | .int i, v => ∃ t, v = .int i t
  | .bool b, v => v = .bool b
  | .none, v => v = .none
  | .str s, v => ∃ t, v = .str s t
  | .ty n, v => v = .type n
  | .bi n, v => v = .builtin n
  | .rng a b c, v => ∃ r t u w, v = .ref r ∧ IsRange h r a b c t u w
  | .tup l, v => ∃ a vs, v = .ref a ∧ h.IsTuple a vs.toArray ∧ RelVs X h l vs
  | .lst l, v => ∃ a vs, v = .ref a ∧ a ∉ X ∧ h.IsList a vs.toArray ∧ RelVs X h l vs
def RelVs (X : List Addr) (h : Heap) : List AV → List Value → Prop
  | [], vs => vs = []
  | a :: l, vs => ∃ v r, vs = v :: r ∧ RelV X h a v ∧ RelVs X h l r
end

/-- the objects that values are made of -/
def isVal (o : Obj) : Prop := (∃ xs n, o.data = .seq xs n) ∨ (o.cls = .type "range" ∧ ∃ fs, o.data = .fields fs)

mutual
theorem RelV.mono {X Y : List Addr} {h h' : Heap} (hk : ∀ a o, a ∉ X → isVal o → h.get? a = some o → h'.get? a = some o) (htup : ∀ a o, isVal o → o.cls ≠ .type "list" → h.get? a = some o → h'.get? a = some o) (hY : ∀ p, p ∈ Y → p ∈ X) : (av : AV) → (v : Value) → RelV X h av v → RelV Y h' av v
  | .int _, _, r => r
  | .bool _, _, r => r
  | .none, _, r => r
  | .str _, _, r => r
  | .ty _, _, r => r
  | .bi _, _, r => r
  | .rng _ _ _, _, ⟨r, t, u, w, e, hr⟩ => ⟨r, t, u, w, e, htup _ _ (.inr ⟨rfl, _, rfl⟩) (show Value.type "range" ≠ Value.type "list" by decide) hr⟩
  | .tup l, _, ⟨a, vs, e, ⟨o, ho, hc, n, hd⟩, rr⟩ => ⟨a, vs, e, ⟨o, htup a o (.inl ⟨_, n, hd⟩) (by rw [hc]; decide) ho, hc, n, hd⟩, RelVs.mono hk htup hY l vs rr⟩
  | .lst l, _, ⟨a, vs, e, hx, ⟨o, ho, hc, n, hd⟩, rr⟩ => ⟨a, vs, e, fun q => hx (hY a q), ⟨o, hk a o hx (.inl ⟨_, n, hd⟩) ho, hc, n, hd⟩, RelVs.mono hk htup hY l vs rr⟩
theorem RelVs.mono {X Y : List Addr} {h h' : Heap} (hk : ∀ a o, a ∉ X → isVal o → h.get? a = some o → h'.get? a = some o) (htup : ∀ a o, isVal o → o.cls ≠ .type "list" → h.get? a = some o → h'.get? a = some o) (hY : ∀ p, p ∈ Y → p ∈ X) : (l : List AV) → (vs : List Value) → RelVs X h l vs → RelVs Y h' l vs
  | [], _, r => r
  | a :: l, _, ⟨v, r, e, h1, h2⟩ => ⟨v, r, e, RelV.mono hk htup hY a v h1, RelVs.mono hk htup hY l r h2⟩
end

/-- value objects off X stand, and all but lists stand wherever they are -/
structure VKeep (X : List Addr) (h h' : Heap) : Prop where
  off : ∀ a o, a ∉ X → isVal o → h.get? a = some o → h'.get? a = some o
  imm : ∀ a o, isVal o → o.cls ≠ .type "list" → h.get? a = some o → h'.get? a = some o

theorem VKeep.of (X : List Addr) {h h' : Heap} (x : StIn h h') : VKeep X h h' := ⟨fun a o _ _ e => x a o e, fun a o _ _ e => x a o e⟩
theorem VKeep.refl (X : List Addr) (h : Heap) : VKeep X h h := .of X (StIn.refl h)
theorem VKeep.trans {X : List Addr} {a b c : Heap} (x : VKeep X a b) (y : VKeep X b c) : VKeep X a c := ⟨fun p o hp hv e => y.off p o hp hv (x.off p o hp hv e), fun p o hv hc e => y.imm p o hv hc (x.imm p o hv hc e)⟩
theorem VKeep.sub {X Y : List Addr} {a b : Heap} (x : VKeep X a b) (hs : ∀ p, p ∈ X → p ∈ Y) : VKeep Y a b := ⟨fun p o hp hv e => x.off p o (fun q => hp (hs p q)) hv e, x.imm⟩

theorem RelV.keep {X : List Addr} {h h' : Heap} {av : AV} {v : Value} (r : RelV X h av v) (k : VKeep X h h') : RelV X h' av v := RelV.mono k.off k.imm (fun _ q => q) av v r
theorem RelVs.keep {X : List Addr} {h h' : Heap} {l : List AV} {vs : List Value} (r : RelVs X h l vs) (k : VKeep X h h') : RelVs X h' l vs := RelVs.mono k.off k.imm (fun _ q => q) l vs r
theorem RelV.st {X : List Addr} {h h' : Heap} {av : AV} {v : Value} (r : RelV X h av v) (k : StIn h h') : RelV X h' av v := r.keep (.of X k)
theorem RelVs.st {X : List Addr} {h h' : Heap} {l : List AV} {vs : List Value} (r : RelVs X h l vs) (k : StIn h h') : RelVs X h' l vs := r.keep (.of X k)
theorem RelV.less {X Y : List Addr} {h : Heap} {av : AV} {v : Value} (r : RelV X h av v) (hs : ∀ p, p ∈ Y → p ∈ X) : RelV Y h av v := RelV.mono (fun _ _ _ _ e => e) (fun _ _ _ _ e => e) hs av v r
theorem RelVs.less {X Y : List Addr} {h : Heap} {l : List AV} {vs : List Value} (r : RelVs X h l vs) (hs : ∀ p, p ∈ Y → p ∈ X) : RelVs Y h l vs := RelVs.mono (fun _ _ _ _ e => e) (fun _ _ _ _ e => e) hs l vs r

theorem RelVs.length {X : List Addr} {h : Heap} : ∀ {l : List AV} {vs : List Value}, RelVs X h l vs → vs.length = l.length
  | [], _, r => by rw [show _ = [] from r]; rfl
  | _ :: l, _, ⟨v, r, e, _, h2⟩ => by rw [e, List.length_cons, List.length_cons, h2.length]
theorem RelVs.get {X : List Addr} {h : Heap} : ∀ {l : List AV} {vs : List Value} (_ : RelVs X h l vs) (i : Nat) (a : AV), l[i]? = some a → ∃ v, vs[i]? = some v ∧ RelV X h a v
  | b :: l, _, ⟨v, r, e, h1, h2⟩, 0, a, hi => by
    have : b = a := by simpa using hi
    exact ⟨v, by rw [e]; rfl, this ▸ h1⟩
  | b :: l, _, ⟨v, r, e, h1, h2⟩, i + 1, a, hi => by
    obtain ⟨v', hv', hr⟩ := h2.get i a (by simpa using hi)
    exact ⟨v', by rw [e]; simpa using hv', hr⟩
theorem RelVs.append {X : List Addr} {h : Heap} : ∀ {l l' : List AV} {vs vs' : List Value}, RelVs X h l vs → RelVs X h l' vs' → RelVs X h (l ++ l') (vs ++ vs')
  | [], _, _, _, r, r' => by rw [show _ = [] from r]; exact r'
  | _ :: l, _, _, _, ⟨v, r, e, h1, h2⟩, r' => ⟨v, r ++ _, by rw [e]; rfl, h1, h2.append r'⟩
theorem RelVs.of {X : List Addr} {h : Heap} : ∀ {l : List AV} {vs : List Value}, vs.length = l.length → (∀ (i : Nat) (a : AV) (v : Value), l[i]? = some a → vs[i]? = some v → RelV X h a v) → RelVs X h l vs
  | [], vs, e, _ => by cases vs with | nil => rfl | cons _ _ => simp at e
  | a :: l, vs, e, hr => by
    cases vs with
    | nil => simp at e
    | cons v r => exact ⟨v, r, rfl, hr 0 a v rfl rfl, RelVs.of (by simpa using e) fun i a' v' h1 h2 => hr (i + 1) a' v' (by simpa using h1) (by simpa using h2)⟩

/-- the built-in names that are used -/
def bltNames : List Str := ["abs", "len", "divmod", "isinstance", "range", "sum", "min", "max", "str", "int", "bool", "sorted", "type", "ValueError"]
/-- the program at hand -/
structure GX where
  prog : Program
  w : World
  p : Program
  loose : List Str
  mean : ExcName → Option Value
  mg : Str → Option Value
  mb : Str → Option Value
  ex : Heap → Prop
  exm : ∀ h h', ex h → StIn h h' → ex h'
  tree : prog.given.tree = none
  noimp : importsNone p = true
  inh : ∃ h, Top p loose mean mg mb h ∧ ex h
  nob : ∀ x ∈ bltNames, mg x = none

structure PG (g : GX) (h : Heap) : Prop where
  top : Top g.p g.loose g.mean g.mg g.mb h
  ex : g.ex h
theorem PG.st {g : GX} {h h' : Heap} (x : PG g h) (k : StIn h h') : PG g h' := ⟨x.top.keeps k, g.exm _ _ x.ex k⟩

structure Room (A : Around) (n : Nat) : Prop where
  hh : A.handled = none
  depth : A.depth + n + 110 < recursionLimit
  units : A.units + 16 * n + 100 < cLine
  fr : ∃ l, A.frames = some l
theorem Room.le {A : Around} {n k : Nat} (x : Room A n) (hk : k ≤ n) : Room A k := ⟨x.hh, by have := x.depth; omega, by have := x.units; omega, x.fr⟩

structure CX where
  g : GX
  A : Around
  env : Env
  n : Nat

structure CX.Ok (C : CX) : Prop where
  room : Room C.A C.n
  kind : C.env.scope.kind = .function
  glob : C.env.globals = mainGlobals
  blt : C.env.builtins = builtinsNs
  seer : ∃ e l, C.A.frames = some (e :: l) ∧ e.scope.isGenerator = false ∧ e.scope.isCoroutine = false ∧ e.builtins = builtinsNs ∧ e.globals = mainGlobals

theorem CX.Ok.pylong {C : CX} (k : C.Ok) {s : Shared} (p : PG C.g s.heap) : PylongRoom (model C.g.prog C.g.w) C.A s := by
  obtain ⟨e, l, h1, h2, h3, h4, h5⟩ := k.seer
  refine PylongRoom.of p.top.nolimit ?_ (SeerAt.of (p.top.seer C.g.noimp) C.g.tree h1 h2 h3 h4 h5)
  have := k.room.depth
  show C.A.depth + 100 < recursionLimit
  omega

/-- a name that reads as v -/
def Rd (env : Env) (h : Heap) (x : Str) (v : Value) : Prop :=
  (env.kindOf x = some .local ∧ ∃ m, h.Ns env.locals m ∧ m x = some v) ∨ ((env.kindOf x = some .cell ∨ env.kindOf x = some .free) ∧ ∃ c, env.cells.lookup x = some c ∧ h.IsCell c (some v))
theorem Rd.st {env : Env} {h h' : Heap} {x : Str} {v : Value} (r : Rd env h x v) (k : StIn h h') : Rd env h' x v := by
  rcases r with ⟨hl, m, hn, hv⟩ | ⟨hl, c, hc, hv⟩
  · exact .inl ⟨hl, m, hn.keeps k, hv⟩
  · exact .inr ⟨hl, c, hc, hv.keeps k⟩

abbrev AM := List (Str × AV)
structure AS where
  vs : AM
  own : Option (Str × List AV) := none

def RelE (env : Env) (X : List Addr) (h : Heap) (S : AM) : Prop := ∀ x av, S.lookup x = some av → ∃ v, Rd env h x v ∧ RelV X h av v
theorem RelE.st {env : Env} {X : List Addr} {h h' : Heap} {S : AM} (r : RelE env X h S) (k : StIn h h') : RelE env X h' S := fun x av e => let ⟨v, h1, h2⟩ := r x av e; ⟨v, h1.st k, h2.st k⟩

/-- the own list stands at b -/
structure OwnAt (env : Env) (X : List Addr) (h : Heap) (x : Str) (l : List AV) (b : Addr) (vs : List Value) : Prop where
  rd : Rd env h x (.ref b)
  inX : b ∈ X
  lst : h.PlainList b vs.toArray
  rel : RelVs X h l vs
theorem OwnAt.st {env : Env} {X : List Addr} {h h' : Heap} {x : Str} {l : List AV} {b : Addr} {vs : List Value} (r : OwnAt env X h x l b vs) (k : StIn h h') : OwnAt env X h' x l b vs :=
  ⟨r.rd.st k, r.inX, r.lst.at fun o e => k b o e, r.rel.st k⟩

def RelS (env : Env) (X : List Addr) (h : Heap) (S : AS) : Prop := RelE env X h S.vs ∧ ∀ x l, S.own = some (x, l) → ∃ b vs, OwnAt env X h x l b vs
theorem RelS.st {env : Env} {X : List Addr} {h h' : Heap} {S : AS} (r : RelS env X h S) (k : StIn h h') : RelS env X h' S := ⟨r.1.st k, fun x l e => let ⟨b, vs, h1⟩ := r.2 x l e; ⟨b, vs, h1.st k⟩⟩

def XIn (X : List Addr) (h : Heap) : Prop := ∀ a ∈ X, (h.get? a).isSome = true
theorem XIn.st {X : List Addr} {h h' : Heap} (x : XIn X h) (k : StIn h h') : XIn X h' := fun a ha => by
  obtain ⟨o, ho⟩ := Option.isSome_iff_exists.mp (x a ha)
  rw [k a o ho]; rfl
theorem XIn.fresh {X : List Addr} {h : Heap} (x : XIn X h) : h.objs.size ∉ X := fun q => by
  obtain ⟨o, ho⟩ := Option.isSome_iff_exists.mp (x _ q)
  exact absurd (Heap.lt_size ho) (Nat.lt_irrefl _)
theorem XIn.none {X : List Addr} {h : Heap} (x : XIn X h) {a : Addr} (e : h.get? a = none) : a ∉ X := fun q => by
  have := x a q; rw [e] at this; cases this

/-- an expression: it gives a value with Φ, and changes nothing that stands -/
structure Ev (C : CX) (S : AS) (e : Expr) (Φ : AV → Prop) : Prop where
  go : C.Ok → ∀ (X : List Addr) (s : Shared) (Q : Value → Shared → Prop) (E : Value → Shared → Prop), PG C.g s.heap → XIn X s.heap → RelS C.env X s.heap S →
    (∀ av v h' tk, StIn s.heap h' → RelV X h' av v → Φ av → Q v { s with heap := h', toks := tk }) → wpAny (model C.g.prog C.g.w) C.A (eval e C.env) Q E s

/-- a list of expressions, from left to right -/
structure Evs (C : CX) (S : AS) (es : List Expr) (Φ : List AV → Prop) : Prop where
  go : C.Ok → ∀ (pos : Pos) (X : List Addr) (s : Shared) (Q : List Value → Shared → Prop) (E : Value → Shared → Prop), PG C.g s.heap → XIn X s.heap → RelS C.env X s.heap S →
    (∀ avs vs h' tk, StIn s.heap h' → RelVs X h' avs vs → avs.length = es.length → Φ avs → Q vs { s with heap := h', toks := tk }) → wpAny (model C.g.prog C.g.w) C.A (spliced (backTo pos (starEach es C.env))) Q E s

/-- a test -/
structure Tst (C : CX) (S : AS) (e : Expr) (Φ : Bool → Prop) : Prop where
  go : C.Ok → ∀ (X : List Addr) (s : Shared) (Q : Bool → Shared → Prop) (E : Value → Shared → Prop), PG C.g s.heap → XIn X s.heap → RelS C.env X s.heap S →
    (∀ b h' tk, StIn s.heap h' → Φ b → Q b { s with heap := h', toks := tk }) → wpAny (model C.g.prog C.g.w) C.A (isTrue e C.env (eval e C.env)) Q E s

/-- a call of a value -/
structure CallsV (g : GX) (n : Nat) (f : Value) (args : List AV) (Φ : AV → Prop) : Prop where
  go : ∀ (A : Around) (X : List Addr) (s : Shared) (vs : List Value) (Q : Value → Shared → Prop) (E : Value → Shared → Prop), Room A n → PG g s.heap → XIn X s.heap → RelVs X s.heap args vs →
    (∀ av v h' tk, StIn s.heap h' → RelV X h' av v → Φ av → Q v { s with heap := h', toks := tk }) → wpAny (model g.prog g.w) A (call f vs) Q E s

theorem Ev.mono {C : CX} {S : AS} {e : Expr} {Φ Ψ : AV → Prop} (x : Ev C S e Φ) (h : ∀ a, Φ a → Ψ a) : Ev C S e Ψ :=
  ⟨fun ok X s Q E p xi r k => x.go ok X s Q E p xi r fun av v h' tk a b c => k av v h' tk a b (h _ c)⟩
theorem Evs.mono {C : CX} {S : AS} {e : List Expr} {Φ Ψ : List AV → Prop} (x : Evs C S e Φ) (h : ∀ a, Φ a → Ψ a) : Evs C S e Ψ :=
  ⟨fun ok pos X s Q E p xi r k => x.go ok pos X s Q E p xi r fun av v h' tk a b l c => k av v h' tk a b l (h _ c)⟩
theorem Tst.mono {C : CX} {S : AS} {e : Expr} {Φ Ψ : Bool → Prop} (x : Tst C S e Φ) (h : ∀ a, Φ a → Ψ a) : Tst C S e Ψ :=
  ⟨fun ok X s Q E p xi r k => x.go ok X s Q E p xi r fun b h' tk a c => k b h' tk a (h _ c)⟩
variable {C : CX} {S : AS} {Φ : AV → Prop}

/-- a binary operation on values -/
structure Bin (C : CX) (op : Operator) (a b : AV) (Φ : AV → Prop) : Prop where
  go : C.Ok → ∀ (X : List Addr) (s : Shared) (va vb : Value) (Q : Value → Shared → Prop) (E : Value → Shared → Prop), PG C.g s.heap → XIn X s.heap → RelV X s.heap a va → RelV X s.heap b vb →
    (∀ av v h' tk, StIn s.heap h' → RelV X h' av v → Φ av → Q v { s with heap := h', toks := tk }) → wpAny (model C.g.prog C.g.w) C.A (binaryOp op va vb) Q E s
structure IBin (C : CX) (op : Operator) (a b : AV) (Φ : AV → Prop) : Prop where
  go : C.Ok → ∀ (X : List Addr) (s : Shared) (va vb : Value) (Q : Value → Shared → Prop) (E : Value → Shared → Prop), PG C.g s.heap → XIn X s.heap → RelV X s.heap a va → RelV X s.heap b vb →
    (∀ av v h' tk, StIn s.heap h' → RelV X h' av v → Φ av → Q v { s with heap := h', toks := tk }) → wpAny (model C.g.prog C.g.w) C.A (inplaceOp op va vb) Q E s
structure Una (C : CX) (op : UnaryOp) (a : AV) (Φ : AV → Prop) : Prop where
  go : C.Ok → ∀ (X : List Addr) (s : Shared) (va : Value) (Q : Value → Shared → Prop) (E : Value → Shared → Prop), PG C.g s.heap → XIn X s.heap → RelV X s.heap a va →
    (∀ av v h' tk, StIn s.heap h' → RelV X h' av v → Φ av → Q v { s with heap := h', toks := tk }) → wpAny (model C.g.prog C.g.w) C.A (unaryOp op va) Q E s
structure Cmp (C : CX) (op : CmpOp) (a b : AV) (Φ : AV → Prop) : Prop where
  go : C.Ok → ∀ (X : List Addr) (s : Shared) (va vb : Value) (Q : Value → Shared → Prop) (E : Value → Shared → Prop), PG C.g s.heap → XIn X s.heap → RelV X s.heap a va → RelV X s.heap b vb →
    (∀ av v h' tk, StIn s.heap h' → RelV X h' av v → Φ av → Q v { s with heap := h', toks := tk }) → wpAny (model C.g.prog C.g.w) C.A (compareOp op va vb) Q E s
structure Trt (C : CX) (a : AV) (Φ : Bool → Prop) : Prop where
  go : C.Ok → ∀ (X : List Addr) (s : Shared) (va : Value) (Q : Bool → Shared → Prop) (E : Value → Shared → Prop), PG C.g s.heap → XIn X s.heap → RelV X s.heap a va →
    (∀ b h' tk, StIn s.heap h' → Φ b → Q b { s with heap := h', toks := tk }) → wpAny (model C.g.prog C.g.w) C.A (truthy va) Q E s
/-- a call in this frame -/
structure CallB (C : CX) (f : Value) (args : List AV) (Φ : AV → Prop) : Prop where
  go : C.Ok → ∀ (X : List Addr) (s : Shared) (vs : List Value) (Q : Value → Shared → Prop) (E : Value → Shared → Prop), PG C.g s.heap → XIn X s.heap → RelVs X s.heap args vs →
    (∀ av v h' tk, StIn s.heap h' → RelV X h' av v → Φ av → Q v { s with heap := h', toks := tk }) → wpAny (model C.g.prog C.g.w) C.A (call f vs) Q E s

theorem Ev_bin {l r : Expr} {op : Operator} {pos : Pos} (h : Ev C S l fun a => Ev C S r fun b => Bin C op a b Φ) : Ev C S (.BinOp l op r pos) Φ := by
  refine ⟨fun ok X s Q E p xi rs k => ?_⟩
  refine wpAny_BinOp (h.go ok X s _ E p xi rs fun a va h₁ t₁ st₁ ra hb => ?_)
  refine hb.go ok X _ _ E (p.st st₁) (xi.st st₁) (rs.st st₁) fun b vb h₂ t₂ st₂ rb hc => ?_
  exact hc.go ok X _ va vb Q E ((p.st st₁).st st₂) ((xi.st st₁).st st₂) (ra.st st₂) rb fun av v h' tk st r φ => k av v h' tk (st₁.trans (st₂.trans st)) r φ

theorem Ev_una {e : Expr} {op : UnaryOp} {pos : Pos} (h : Ev C S e fun a => Una C op a Φ) : Ev C S (.UnaryOp op e pos) Φ := by
  refine ⟨fun ok X s Q E p xi rs k => ?_⟩
  refine wpAny_UnaryOp (h.go ok X s _ E p xi rs fun a va h₁ t₁ st₁ ra hb => ?_)
  exact hb.go ok X _ va Q E (p.st st₁) (xi.st st₁) ra fun av v h' tk st r φ => k av v h' tk (st₁.trans st) r φ

theorem Ev_cmp {l r : Expr} {op : CmpOp} {pos : Pos} (h : Ev C S l fun a => Ev C S r fun b => Cmp C op a b Φ) (hm : behindInMarks op r = false := by with_unfolding_all rfl) : Ev C S (.Compare l [op] [r] pos) Φ := by
  refine ⟨fun ok X s Q E p xi rs k => ?_⟩
  refine wpAny_Compare1 (h.go ok X s _ E p xi rs fun a va h₁ t₁ st₁ ra hb => ?_) hm
  refine hb.go ok X _ _ E (p.st st₁) (xi.st st₁) (rs.st st₁) fun b vb h₂ t₂ st₂ rb hc => ?_
  exact hc.go ok X _ va vb Q E ((p.st st₁).st st₂) ((xi.st st₁).st st₂) (ra.st st₂) rb fun av v h' tk st r φ => k av v h' tk (st₁.trans (st₂.trans st)) r φ

theorem Tst_cmp {l r : Expr} {op : CmpOp} {pos : Pos} {Φ : Bool → Prop} (h : Ev C S l fun a => Ev C S r fun b => Cmp C op a b fun c => Trt C c Φ) (hm : behindInMarks op r = false := by with_unfolding_all rfl) : Tst C S (.Compare l [op] [r] pos) Φ := by
  refine ⟨fun ok X s Q E p xi rs k => ?_⟩
  refine wpAny_isTrue_Compare1 (h.go ok X s _ E p xi rs fun a va h₁ t₁ st₁ ra hb => ?_) hm
  refine hb.go ok X _ _ E (p.st st₁) (xi.st st₁) (rs.st st₁) fun b vb h₂ t₂ st₂ rb hc => ?_
  refine hc.go ok X _ va vb _ E ((p.st st₁).st st₂) ((xi.st st₁).st st₂) (ra.st st₂) rb fun c vc h₃ t₃ st₃ rc hd => ?_
  exact hd.go ok X _ vc Q E (((p.st st₁).st st₂).st st₃) (((xi.st st₁).st st₂).st st₃) rc fun b h' tk st φ => k b h' tk (st₁.trans (st₂.trans (st₃.trans st))) φ

/-- a < b < c -/
theorem Tst_cmp2 {l r r₂ : Expr} {op op₂ : CmpOp} {pos : Pos} {Φ : Bool → Prop}
    (h : Ev C S l fun a => Ev C S r fun b => Cmp C op a b fun c => Trt C c fun t => if t then Ev C S r₂ fun d => Cmp C op₂ b d fun c => Trt C c Φ else Φ false)
    (hm : lastMarks [op, op₂] [r, r₂] = false := by with_unfolding_all rfl) : Tst C S (.Compare l [op, op₂] [r, r₂] pos) Φ := by
  refine ⟨fun ok X s Q E p xi rs k => ?_⟩
  refine isTrue_chain (h.go ok X s _ E p xi rs fun a va h₁ t₁ st₁ ra hb => ?_) hm
  show wpAny _ _ (testChain pos va (op :: op₂ :: []) (eval r C.env :: eval r₂ C.env :: [])) Q E _
  refine test_link ?_
  refine hb.go ok X _ _ E (p.st st₁) (xi.st st₁) (rs.st st₁) fun b vb h₂ t₂ st₂ rb hc => ?_
  refine hc.go ok X _ va vb _ E ((p.st st₁).st st₂) ((xi.st st₁).st st₂) (ra.st st₂) rb fun c vc h₃ t₃ st₃ rc hd => ?_
  refine hd.go ok X _ vc _ E (((p.st st₁).st st₂).st st₃) (((xi.st st₁).st st₂).st st₃) rc fun t h₄ t₄ st₄ φ => ?_
  have st4 := st₁.trans (st₂.trans (st₃.trans st₄))
  cases t with
  | false => exact k false h₄ t₄ st4 φ
  | true =>
    refine test_last ?_
    simp only [if_true] at φ
    refine φ.go ok X _ _ E (p.st st4) (xi.st st4) (rs.st st4) fun d vd h₅ t₅ st₅ rd he => ?_
    refine he.go ok X _ vb vd _ E (p.st (st4.trans st₅)) (xi.st (st4.trans st₅)) (rb.st (st₃.trans (st₄.trans st₅))) rd fun c vc h₆ t₆ st₆ rc hf => ?_
    exact hf.go ok X _ vc Q E (p.st (st4.trans (st₅.trans st₆))) (xi.st (st4.trans (st₅.trans st₆))) rc fun b h' tk st φ => k b h' tk (st4.trans (st₅.trans (st₆.trans st))) φ

theorem Ev_const_int {i : Int} {k : Nat} {pos : Pos} (h : Φ (.int i)) : Ev C S (.Constant (.int i) k pos) Φ :=
  ⟨fun _ _ s _ _ _ _ _ k => wpAny_Constant_int (k (.int i) _ s.heap _ (StIn.refl _) ⟨_, rfl⟩ h)⟩
theorem Ev_const_bool {b : Bool} {k : Nat} {pos : Pos} (h : Φ (.bool b)) : Ev C S (.Constant (.bool b) k pos) Φ :=
  ⟨fun _ _ s _ _ _ _ _ k => wpAny_Constant_bool (k (.bool b) _ s.heap s.toks (StIn.refl _) rfl h)⟩
theorem Ev_const_none {k : Nat} {pos : Pos} (h : Φ .none) : Ev C S (.Constant .none k pos) Φ :=
  ⟨fun _ _ s _ _ _ _ _ k => wpAny_Constant_none (k .none _ s.heap s.toks (StIn.refl _) rfl h)⟩
theorem Ev_const_str {x : Str} {k : Nat} {pos : Pos} (h : Φ (.str x)) : Ev C S (.Constant (.str x) k pos) Φ :=
  ⟨fun _ _ s _ _ _ _ _ k => wpAny_Constant_str (k (.str x) _ s.heap _ (StIn.refl _) ⟨_, rfl⟩ h)⟩

theorem load_rd {M : Model} {A : Around} {env : Env} {x : Str} {v : Value} {s : Shared} {Q : Value → Shared → Prop} {E : Value → Shared → Prop} (hk : env.scope.kind = .function) (r : Rd env s.heap x v) (h : Q v s)
    (hn : (x == ("__classdict__" : Str)) = false) : wpAny M A (loadName env x) Q E s := by
  rcases r with ⟨hl, m, hns, hv⟩ | ⟨hl | hl, c, hc, hv⟩
  · exact wpAny_loadName_local hk hl hns hv h
  · exact wpAny_loadName_cell hk hl hc hv h
  · exact wpAny_loadName_free hk hl hc hv h hn

theorem Ev_name {x : Str} {pos : Pos} {av : AV} (hx : S.vs.lookup x = some av) (h : Φ av) (hd : (x == ("__debug__" : Str)) = false := by decide) (hn : (x == ("__classdict__" : Str)) = false := by decide) : Ev C S (.Name x pos) Φ := by
  refine ⟨fun ok X s Q E p xi rs k => ?_⟩
  obtain ⟨v, hr, hv⟩ := rs.1 x av hx
  exact wpAny_Name (load_rd ok.kind hr (k av v s.heap s.toks (StIn.refl _) hv h) hn) hd

theorem Ev_ifexp {t a b : Expr} {pos : Pos} (h : Tst C S t fun c => if c then Ev C S a Φ else Ev C S b Φ) : Ev C S (.IfExp t a b pos) Φ := by
  refine ⟨fun ok X s Q E p xi rs k => ?_⟩
  refine wpAny_IfExp (h.go ok X s _ E p xi rs fun c h₁ t₁ st₁ φ => ?_)
  cases c with
  | true => exact φ.go ok X _ Q E (p.st st₁) (xi.st st₁) (rs.st st₁) fun av v h' tk st r ψ => k av v h' tk (st₁.trans st) r ψ
  | false => exact φ.go ok X _ Q E (p.st st₁) (xi.st st₁) (rs.st st₁) fun av v h' tk st r ψ => k av v h' tk (st₁.trans st) r ψ

theorem Evs_nil {Φ : List AV → Prop} (h : Φ []) : Evs C S [] Φ := ⟨fun _ _ _ s _ _ _ _ _ k => wpAny_items_nil (k [] [] s.heap s.toks (StIn.refl _) rfl rfl h)⟩
theorem Evs_cons {e : Expr} {es : List Expr} {Φ : List AV → Prop} (h : Ev C S e fun a => Evs C S es fun l => Φ (a :: l))
    (he : starEach (e :: es) C.env = (false, eval e C.env) :: starEach es C.env := by rfl) : Evs C S (e :: es) Φ := by
  refine ⟨fun ok pos X s Q E p xi rs k => ?_⟩
  refine wpAny_items_cons (h.go ok X s _ E p xi rs fun a va h₁ t₁ st₁ ra hb => ?_) he
  exact hb.go ok pos X _ _ E (p.st st₁) (xi.st st₁) (rs.st st₁) fun avs vs h₂ t₂ st₂ rb hl φ => k (a :: avs) (va :: vs) h₂ t₂ (st₁.trans st₂) ⟨va, vs, rfl, ra.st st₂, rb⟩ (by rw [List.length_cons, List.length_cons, hl]) φ

-- tests
theorem Tst_not {e : Expr} {pos : Pos} {Φ : Bool → Prop} (h : Tst C S e fun b => Φ (!b)) : Tst C S (.UnaryOp .Not e pos) Φ := by
  refine ⟨fun ok X s Q E p xi rs k => ?_⟩
  exact wpAny_isTrue_Not (h.go ok X s _ E p xi rs fun b h₁ t₁ st₁ φ => k _ h₁ t₁ st₁ φ)

structure Tsts (C : CX) (S : AS) (op : BoolOp) (es : List Expr) (Φ : Bool → Prop) : Prop where
  go : C.Ok → ∀ (X : List Addr) (s : Shared) (Q : Bool → Shared → Prop) (E : Value → Shared → Prop), PG C.g s.heap → XIn X s.heap → RelS C.env X s.heap S →
    (∀ b h' tk, StIn s.heap h' → Φ b → Q b { s with heap := h', toks := tk }) → wpAny (model C.g.prog C.g.w) C.A (allTrue op es C.env) Q E s
theorem Tst_boolop {op : BoolOp} {es : List Expr} {pos : Pos} {Φ : Bool → Prop} (h : Tsts C S op es Φ) : Tst C S (.BoolOp op es pos) Φ :=
  ⟨fun ok X s Q E p xi rs k => wpAny_isTrue_BoolOp (h.go ok X s Q E p xi rs k)⟩
theorem Tsts_and_nil {Φ : Bool → Prop} (h : Φ true) : Tsts C S .And [] Φ := ⟨fun _ _ s _ _ _ _ _ k => wpAny_allTrue_And_nil (k true s.heap s.toks (StIn.refl _) h)⟩
theorem Tsts_or_nil {Φ : Bool → Prop} (h : Φ false) : Tsts C S .Or [] Φ := ⟨fun _ _ s _ _ _ _ _ k => wpAny_allTrue_Or_nil (k false s.heap s.toks (StIn.refl _) h)⟩
theorem Tsts_and_cons {e : Expr} {es : List Expr} {Φ : Bool → Prop} (h : Tst C S e fun b => if b then Tsts C S .And es Φ else Φ false) : Tsts C S .And (e :: es) Φ := by
  refine ⟨fun ok X s Q E p xi rs k => ?_⟩
  refine wpAny_allTrue_And_cons (h.go ok X s _ E p xi rs fun b h₁ t₁ st₁ φ => ?_)
  cases b with
  | false => exact k false h₁ t₁ st₁ φ
  | true => exact φ.go ok X _ Q E (p.st st₁) (xi.st st₁) (rs.st st₁) fun b h' tk st ψ => k b h' tk (st₁.trans st) ψ
theorem Tsts_or_cons {e : Expr} {es : List Expr} {Φ : Bool → Prop} (h : Tst C S e fun b => if b then Φ true else Tsts C S .Or es Φ) : Tsts C S .Or (e :: es) Φ := by
  refine ⟨fun ok X s Q E p xi rs k => ?_⟩
  refine wpAny_allTrue_Or_cons (h.go ok X s _ E p xi rs fun b h₁ t₁ st₁ φ => ?_)
  cases b with
  | true => exact k true h₁ t₁ st₁ φ
  | false => exact φ.go ok X _ Q E (p.st st₁) (xi.st st₁) (rs.st st₁) fun b h' tk st ψ => k b h' tk (st₁.trans st) ψ
/-- any other expression as a test -/
theorem Tst_val {e : Expr} {Φ : Bool → Prop} (h : Ev C S e fun a => Trt C a Φ)
    (he : isTrue e C.env (eval e C.env) = (do let v ← eval e C.env; standAt e.pos; holding [v] (truthy v)) := by rfl) : Tst C S e Φ := by
  refine ⟨fun ok X s Q E p xi rs k => ?_⟩
  refine wpAny_isTrue_value (h.go ok X s _ E p xi rs fun a va h₁ t₁ st₁ ra hb => ?_) he
  exact hb.go ok X _ va Q E (p.st st₁) (xi.st st₁) ra fun b h' tk st φ => k b h' tk (st₁.trans st) φ

-- and, or as values, of two
theorem Ev_and2 {x y : Expr} {pos : Pos} (h : Ev C S x fun a => Trt C a fun t => if t then Ev C S y Φ else Φ a) : Ev C S (.BoolOp .And [x, y] pos) Φ := by
  refine ⟨fun ok X s Q E p xi rs k => ?_⟩
  refine wpAny_And2 (h.go ok X s _ E p xi rs fun a va h₁ t₁ st₁ ra hb => ?_)
  refine hb.go ok X _ va _ E (p.st st₁) (xi.st st₁) ra fun t h₂ t₂ st₂ φ => ?_
  cases t with
  | true => exact φ.go ok X _ Q E (p.st (st₁.trans st₂)) (xi.st (st₁.trans st₂)) (rs.st (st₁.trans st₂)) fun av v h' tk st r ψ => k av v h' tk (st₁.trans (st₂.trans st)) r ψ
  | false => exact k a va h₂ t₂ (st₁.trans st₂) (ra.st st₂) φ
theorem Ev_or2 {x y : Expr} {pos : Pos} (h : Ev C S x fun a => Trt C a fun t => if t then Φ a else Ev C S y Φ) : Ev C S (.BoolOp .Or [x, y] pos) Φ := by
  refine ⟨fun ok X s Q E p xi rs k => ?_⟩
  refine wpAny_Or2 (h.go ok X s _ E p xi rs fun a va h₁ t₁ st₁ ra hb => ?_)
  refine hb.go ok X _ va _ E (p.st st₁) (xi.st st₁) ra fun t h₂ t₂ st₂ φ => ?_
  cases t with
  | false => exact φ.go ok X _ Q E (p.st (st₁.trans st₂)) (xi.st (st₁.trans st₂)) (rs.st (st₁.trans st₂)) fun av v h' tk st r ψ => k av v h' tk (st₁.trans (st₂.trans st)) r ψ
  | true => exact k a va h₂ t₂ (st₁.trans st₂) (ra.st st₂) φ

theorem Trt_bool {b : Bool} {Φ : Bool → Prop} (h : Φ b) : Trt C (.bool b) Φ := by
  refine ⟨fun _ _ s va _ _ _ _ r k => ?_⟩
  obtain rfl : va = .bool b := r
  exact wpAny_truthy_bool (k b s.heap s.toks (StIn.refl _) h)
theorem Trt_int {i : Int} {Φ : Bool → Prop} (h : Φ (i != 0)) : Trt C (.int i) Φ := by
  refine ⟨fun _ _ s va _ _ _ _ r k => ?_⟩
  obtain ⟨t, rfl⟩ : ∃ t, va = .int i t := r
  exact PyProof.Rows.truthy_int (k _ s.heap s.toks (StIn.refl _) h)

-- ints
section
variable {a b : Int}
theorem Bin_add (h : Φ (.int (a + b))) : Bin C .Add (.int a) (.int b) Φ := by
  refine ⟨fun _ _ s va vb _ _ _ _ ra rb k => ?_⟩
  obtain ⟨t, rfl⟩ : ∃ t, va = .int a t := ra
  obtain ⟨u, rfl⟩ : ∃ t, vb = .int b t := rb
  exact PyProof.Rows.add_int (k (.int _) _ s.heap _ (StIn.refl _) ⟨_, rfl⟩ h)
theorem Bin_sub (h : Φ (.int (a - b))) : Bin C .Sub (.int a) (.int b) Φ := by
  refine ⟨fun _ _ s va vb _ _ _ _ ra rb k => ?_⟩
  obtain ⟨t, rfl⟩ : ∃ t, va = .int a t := ra
  obtain ⟨u, rfl⟩ : ∃ t, vb = .int b t := rb
  exact PyProof.Rows.sub_int' (k (.int _) _ s.heap _ (StIn.refl _) ⟨_, rfl⟩ h)
theorem Bin_mul (hm : IntMulOk a b) (h : Φ (.int (a * b))) : Bin C .Mult (.int a) (.int b) Φ := by
  refine ⟨fun _ _ s va vb _ _ _ _ ra rb k => ?_⟩
  obtain ⟨t, rfl⟩ : ∃ t, va = .int a t := ra
  obtain ⟨u, rfl⟩ : ∃ t, vb = .int b t := rb
  exact PyProof.Rows.mul_int (k (.int _) _ s.heap _ (StIn.refl _) ⟨_, rfl⟩ h) hm
theorem Bin_fdiv (hb : b ≠ 0) (h : Φ (.int (a.fdiv b))) : Bin C .FloorDiv (.int a) (.int b) Φ := by
  refine ⟨fun ok _ s va vb _ _ p _ ra rb k => ?_⟩
  obtain ⟨t, rfl⟩ : ∃ t, va = .int a t := ra
  obtain ⟨u, rfl⟩ : ∃ t, vb = .int b t := rb
  exact PyProof.Rows.floordiv_int hb (k (.int _) _ s.heap _ (StIn.refl _) ⟨_, rfl⟩ h) (.inr (ok.pylong p))
theorem Bin_mod (hb : b ≠ 0) (h : Φ (.int (a.fmod b))) : Bin C .Mod (.int a) (.int b) Φ := by
  refine ⟨fun ok _ s va vb _ _ p _ ra rb k => ?_⟩
  obtain ⟨t, rfl⟩ : ∃ t, va = .int a t := ra
  obtain ⟨u, rfl⟩ : ∃ t, vb = .int b t := rb
  exact PyProof.Rows.mod_int' hb (k (.int _) _ s.heap _ (StIn.refl _) ⟨_, rfl⟩ h)
theorem Bin_pow (hn : 0 ≤ b) (hsz : (Builtin.Int.intBits a : Int) * b ≤ 2 ^ 27) (h : Φ (.int (a ^ b.toNat))) : Bin C .Pow (.int a) (.int b) Φ := by
  refine ⟨fun ok _ s va vb _ _ p _ ra rb k => ?_⟩
  obtain ⟨t, rfl⟩ : ∃ t, va = .int a t := ra
  obtain ⟨u, rfl⟩ : ∃ t, vb = .int b t := rb
  exact PyProof.Rows.pow_int hn hsz (k (.int _) _ s.heap _ (StIn.refl _) ⟨_, rfl⟩ h)
theorem Bin_shl (hn : 0 ≤ b) (hsz : (Builtin.Int.intBits a : Int) + b ≤ 2 ^ 27) (h : Φ (.int (a * 2 ^ b.toNat))) : Bin C .LShift (.int a) (.int b) Φ := by
  refine ⟨fun ok _ s va vb _ _ p _ ra rb k => ?_⟩
  obtain ⟨t, rfl⟩ : ∃ t, va = .int a t := ra
  obtain ⟨u, rfl⟩ : ∃ t, vb = .int b t := rb
  exact PyProof.Rows.lshift_int hn hsz (k (.int _) _ s.heap _ (StIn.refl _) ⟨_, rfl⟩ h)
theorem Bin_shr (hn : 0 ≤ b) (h : Φ (.int (a.fdiv (2 ^ b.toNat)))) : Bin C .RShift (.int a) (.int b) Φ := by
  refine ⟨fun ok _ s va vb _ _ p _ ra rb k => ?_⟩
  obtain ⟨t, rfl⟩ : ∃ t, va = .int a t := ra
  obtain ⟨u, rfl⟩ : ∃ t, vb = .int b t := rb
  exact PyProof.Rows.rshift_int hn (k (.int _) _ s.heap _ (StIn.refl _) ⟨_, rfl⟩ h)
theorem Bin_and (h : Φ (.int (Builtin.bitAnd a b))) : Bin C .BitAnd (.int a) (.int b) Φ := by
  refine ⟨fun ok _ s va vb _ _ p _ ra rb k => ?_⟩
  obtain ⟨t, rfl⟩ : ∃ t, va = .int a t := ra
  obtain ⟨u, rfl⟩ : ∃ t, vb = .int b t := rb
  exact PyProof.Rows.and_int (k (.int _) _ s.heap _ (StIn.refl _) ⟨_, rfl⟩ h)
theorem Bin_add_bool {c : Bool} (h : Φ (.int (a + if c = true then (1 : Int) else 0))) : Bin C .Add (.int a) (.bool c) Φ := by
  refine ⟨fun ok _ s va vb _ _ p _ ra rb k => ?_⟩
  obtain ⟨t, rfl⟩ : ∃ t, va = .int a t := ra
  obtain rfl : vb = .bool c := rb
  exact PySem.add_int_bool (k (.int _) _ s.heap _ (StIn.refl _) ⟨_, rfl⟩ h)
theorem Una_neg (h : Φ (.int (-a))) : Una C .USub (.int a) Φ := by
  refine ⟨fun _ _ s va _ _ _ _ ra k => ?_⟩
  obtain ⟨t, rfl⟩ : ∃ t, va = .int a t := ra
  exact PyProof.Rows.neg_int (k (.int _) _ s.heap _ (StIn.refl _) ⟨_, rfl⟩ h)
theorem Una_not {x : AV} (h : Trt C x fun b => Φ (.bool !b)) : Una C .Not x Φ := ⟨fun ok X s va Q E p xi ra k =>
  PySem.not_value (h.go ok X s va _ E p xi ra fun b h' tk st φ => k (.bool _) _ h' tk st rfl φ)⟩
theorem Cmp_eq (h : Φ (.bool (a == b))) : Cmp C .Eq (.int a) (.int b) Φ := by
  refine ⟨fun ok _ s va vb _ _ p _ ra rb k => ?_⟩
  obtain ⟨t, rfl⟩ : ∃ t, va = .int a t := ra
  obtain ⟨u, rfl⟩ : ∃ t, vb = .int b t := rb
  exact PyProof.Rows.eq_int (k (.bool _) _ s.heap s.toks (StIn.refl _) rfl h)
theorem Cmp_ne (h : Φ (.bool (a != b))) : Cmp C .NotEq (.int a) (.int b) Φ := by
  refine ⟨fun ok _ s va vb _ _ p _ ra rb k => ?_⟩
  obtain ⟨t, rfl⟩ : ∃ t, va = .int a t := ra
  obtain ⟨u, rfl⟩ : ∃ t, vb = .int b t := rb
  exact PyProof.Rows.ne_int (k (.bool _) _ s.heap s.toks (StIn.refl _) rfl h)
theorem Cmp_lt (h : Φ (.bool (decide (a < b)))) : Cmp C .Lt (.int a) (.int b) Φ := by
  refine ⟨fun ok _ s va vb _ _ p _ ra rb k => ?_⟩
  obtain ⟨t, rfl⟩ : ∃ t, va = .int a t := ra
  obtain ⟨u, rfl⟩ : ∃ t, vb = .int b t := rb
  exact PyProof.Rows.lt_int (k (.bool _) _ s.heap s.toks (StIn.refl _) rfl h)
theorem Cmp_le (h : Φ (.bool (decide (a ≤ b)))) : Cmp C .LtE (.int a) (.int b) Φ := by
  refine ⟨fun ok _ s va vb _ _ p _ ra rb k => ?_⟩
  obtain ⟨t, rfl⟩ : ∃ t, va = .int a t := ra
  obtain ⟨u, rfl⟩ : ∃ t, vb = .int b t := rb
  exact PyProof.Rows.le_int (k (.bool _) _ s.heap s.toks (StIn.refl _) rfl h)
theorem Cmp_gt (h : Φ (.bool (decide (b < a)))) : Cmp C .Gt (.int a) (.int b) Φ := by
  refine ⟨fun ok _ s va vb _ _ p _ ra rb k => ?_⟩
  obtain ⟨t, rfl⟩ : ∃ t, va = .int a t := ra
  obtain ⟨u, rfl⟩ : ∃ t, vb = .int b t := rb
  exact PyProof.Rows.gt_int (k (.bool _) _ s.heap s.toks (StIn.refl _) rfl h)
theorem Cmp_ge (h : Φ (.bool (decide (b ≤ a)))) : Cmp C .GtE (.int a) (.int b) Φ := by
  refine ⟨fun ok _ s va vb _ _ p _ ra rb k => ?_⟩
  obtain ⟨t, rfl⟩ : ∃ t, va = .int a t := ra
  obtain ⟨u, rfl⟩ : ∃ t, vb = .int b t := rb
  exact PyProof.Rows.ge_int (k (.bool _) _ s.heap s.toks (StIn.refl _) rfl h)
end

theorem IBin_add {a b : Int} (h : Φ (.int (a + b))) : IBin C .Add (.int a) (.int b) Φ := by
  refine ⟨fun _ _ s va vb _ _ _ _ ra rb k => ?_⟩
  obtain ⟨t, rfl⟩ : ∃ t, va = .int a t := ra
  obtain ⟨u, rfl⟩ : ∃ t, vb = .int b t := rb
  exact PyProof.Rows.iadd_int (k (.int _) _ s.heap _ (StIn.refl _) ⟨_, rfl⟩ h)
theorem IBin_sub {a b : Int} (h : Φ (.int (a - b))) : IBin C .Sub (.int a) (.int b) Φ := by
  refine ⟨fun _ _ s va vb _ _ _ _ ra rb k => ?_⟩
  obtain ⟨t, rfl⟩ : ∃ t, va = .int a t := ra
  obtain ⟨u, rfl⟩ : ∃ t, vb = .int b t := rb
  exact PyProof.Rows.isub_int (k (.int _) _ s.heap _ (StIn.refl _) ⟨_, rfl⟩ h)
theorem IBin_mul {a b : Int} (hm : IntMulOk a b) (h : Φ (.int (a * b))) : IBin C .Mult (.int a) (.int b) Φ := by
  refine ⟨fun _ _ s va vb _ _ _ _ ra rb k => ?_⟩
  obtain ⟨t, rfl⟩ : ∃ t, va = .int a t := ra
  obtain ⟨u, rfl⟩ : ∃ t, vb = .int b t := rb
  exact PySem.AutoIntOps.imul_0 (k (.int _) _ s.heap _ (StIn.refl _) ⟨_, rfl⟩ h) hm

-- displays
theorem newTuple_rel {M : Model} {A : Around} {X : List Addr} {s : Shared} {avs : List AV} {vs : List Value} {Q : Value → Shared → Prop} {E : Value → Shared → Prop} (r : RelVs X s.heap avs vs) (hsz : avs.length ≤ sizeLine)
    (k : ∀ v h' tk, StIn s.heap h' → RelV X h' (.tup avs) v → Q v { s with heap := h', toks := tk }) : wpAny M A (newTuple vs) Q E s := by
  refine wpAny_newTuple (k _ _ s.toks (StIn.push _ _) ⟨_, vs, rfl, ⟨_, Heap.get?_push_size _ rfl, rfl, 0, rfl⟩, r.st (StIn.push _ _)⟩) ?_
  rw [r.length]; exact hsz
theorem newList_rel {M : Model} {A : Around} {X : List Addr} {s : Shared} {avs : List AV} {vs : List Value} {Q : Value → Shared → Prop} {E : Value → Shared → Prop} (xi : XIn X s.heap) (r : RelVs X s.heap avs vs) (hsz : avs.length ≤ sizeLine)
    (k : ∀ v h' tk, StIn s.heap h' → RelV X h' (.lst avs) v → Q v { s with heap := h', toks := tk }) : wpAny M A (newList vs) Q E s := by
  refine wpAny_newObj_type (k _ _ s.toks (StIn.push _ _) ⟨_, vs, rfl, xi.fresh, ⟨_, Heap.get?_push_size _ rfl, rfl, 0, rfl⟩, r.st (StIn.push _ _)⟩) ?_
  show vs.toArray.size ≤ sizeLine
  rw [List.size_toArray, r.length]; exact hsz

theorem Ev_tuple {es : List Expr} {k : Nat} {pos : Pos} (h : Evs C S es fun l => Φ (.tup l)) (hsz : es.length ≤ 1000 := by decide) : Ev C S (.Tuple es k pos) Φ := by
  refine ⟨fun ok X s Q E p xi rs k => ?_⟩
  refine PyProof.Rows.Tuple_ (h.go ok pos X s _ E p xi rs fun avs vs h₁ t₁ st₁ r hl φ => ?_)
  exact newTuple_rel r (by rw [hl, sizeLine_eq]; omega) fun v h' tk st rr => k _ v h' tk (st₁.trans st) rr φ
theorem Ev_list {es : List Expr} {pos : Pos} (h : Evs C S es fun l => Φ (.lst l)) (hsz : es.length ≤ 1000 := by decide) : Ev C S (.List es pos) Φ := by
  refine ⟨fun ok X s Q E p xi rs k => ?_⟩
  refine PyProof.Rows.List_ (h.go ok pos X s _ E p xi rs fun avs vs h₁ t₁ st₁ r hl φ => ?_)
  exact newList_rel (xi.st st₁) r (by rw [hl, sizeLine_eq]; omega) fun v h' tk st rr => k _ v h' tk (st₁.trans st) rr φ
variable {C : CX} {S : AS} {Φ : AV → Prop}

/-- a built-in name, not covered -/
theorem Ev_boot {x : Str} {pos : Pos} {fv : Value} {av : AV} (hm : C.g.mg x = none) (hb : bootBuiltins x = some fv) (hx : C.env.kindOf x = some .globalImplicit) (hr : ∀ X h, RelV X h av fv) (h : Φ av)
    (hn : x ≠ "__name__" := by decide) (hd : (x == ("__debug__" : Str)) = false := by decide) : Ev C S (.Name x pos) Φ := by
  refine ⟨fun ok X s Q E p xi rs k => ?_⟩
  refine Calls.Name_function_global ok.kind hx (Calls.loadGlobal_builtin (by rw [ok.glob]; exact p.top.g) hm (by rw [ok.blt]; exact p.top.b) ((p.top.builtins x hn).trans hb) ?_) hd
  exact k av fv s.heap s.toks (StIn.refl _) (hr X _) h

theorem spliced_any {args : List Expr} {pos : Pos} {env : Env} (h : (starEach args env).any (·.1) = false) : (backTo pos (starEach args env)).any (·.1) = false := by
  rw [← h]; unfold backTo
  induction starEach args env with
  | nil => rfl
  | cons x r ih => simp_all

/-- a call of a built-in function -/
theorem Ev_callB {f : Str} {fp pos : Pos} {args : List Expr} {id : String} (hm : C.g.mg f = none) (hb : bootBuiltins f = some (.builtin id)) (hx : C.env.kindOf f = some .globalImplicit) (h : Evs C S args fun avs => CallB C (.builtin id) avs Φ)
    (ha : ∃ x r, starEach args C.env = (false, x) :: r ∧ (starEach args C.env).any (·.1) = false := by exact ⟨_, _, rfl, rfl⟩)
    (hn : f ≠ "__name__" := by decide) (hd : (f == ("__debug__" : Str)) = false := by decide) : Ev C S (.Call (.Name f fp) args [] pos) Φ := by
  refine ⟨fun ok X s Q E p xi rs k => ?_⟩
  obtain ⟨x, r, he, hany⟩ := ha
  refine wpAny_Call_Name_kw ?_
  refine Calls.Name_function_global ok.kind hx (Calls.loadGlobal_builtin (by rw [ok.glob]; exact p.top.g) hm (by rw [ok.blt]; exact p.top.b) ((p.top.builtins f hn).trans hb) ?_) hd
  refine Calls.callWith_builtin (spliced_any hany) ?_
  have hb' : ∃ x' r', backTo pos (starEach args C.env) = (false, x') :: r' := by rw [he]; exact ⟨_, _, rfl⟩
  obtain ⟨x', r', hb'⟩ := hb'
  rw [hb']
  refine Calls.evalArgs_plain ?_
  rw [← hb']
  refine h.go ok pos X s _ E p xi rs fun avs vs h₁ t₁ st₁ ra _ hc => ?_
  exact hc.go ok X _ vs Q E (p.st st₁) (xi.st st₁) ra fun av v h' tk st r φ => k av v h' tk (st₁.trans st) r φ
/-- a call of a built-in type -/
theorem Ev_callT {f : Str} {fp pos : Pos} {args : List Expr} {T : String} (hm : C.g.mg f = none) (hb : bootBuiltins f = some (.type T)) (hx : C.env.kindOf f = some .globalImplicit) (h : Evs C S args fun avs => CallB C (.type T) avs Φ)
    (ha : ∃ x r, starEach args C.env = (false, x) :: r ∧ (starEach args C.env).any (·.1) = false := by exact ⟨_, _, rfl, rfl⟩)
    (hn : f ≠ "__name__" := by decide) (hd : (f == ("__debug__" : Str)) = false := by decide) : Ev C S (.Call (.Name f fp) args [] pos) Φ := by
  refine ⟨fun ok X s Q E p xi rs k => ?_⟩
  obtain ⟨x, r, he, hany⟩ := ha
  refine wpAny_Call_Name_kw ?_
  refine Calls.Name_function_global ok.kind hx (Calls.loadGlobal_builtin (by rw [ok.glob]; exact p.top.g) hm (by rw [ok.blt]; exact p.top.b) ((p.top.builtins f hn).trans hb) ?_) hd
  refine PyProof.Rows.callWith_type (spliced_any hany) ?_
  have hb' : ∃ x' r', backTo pos (starEach args C.env) = (false, x') :: r' := by rw [he]; exact ⟨_, _, rfl⟩
  obtain ⟨x', r', hb'⟩ := hb'
  rw [hb']
  refine Calls.evalArgs_plain ?_
  rw [← hb']
  refine h.go ok pos X s _ E p xi rs fun avs vs h₁ t₁ st₁ ra _ hc => ?_
  exact hc.go ok X _ vs Q E (p.st st₁) (xi.st st₁) ra fun av v h' tk st r φ => k av v h' tk (st₁.trans st) r φ

/-- a def of the text: where it stands -/
def FnIs (g : GX) (f : Str) (a : Addr) : Prop := g.mg f = some (.ref a) ∧ ∀ h, PG g h → ∃ o fd, h.get? a = some o ∧ o.data = .func fd
/-- what a call of it gives -/
def Calls (g : GX) (n : Nat) (f : Str) (args : List AV) (Φ : AV → Prop) : Prop := ∃ a, FnIs g f a ∧ CallsV g n (.ref a) args Φ

theorem Calls.mono {g : GX} {n : Nat} {f : Str} {args : List AV} {Φ Ψ : AV → Prop} (x : Calls g n f args Φ) (h : ∀ a, Φ a → Ψ a) : Calls g n f args Ψ :=
  let ⟨a, hf, hc⟩ := x; ⟨a, hf, ⟨fun A X s vs Q E ro p xi r k => hc.go A X s vs Q E ro p xi r fun av v h' tk st rv φ => k av v h' tk st rv (h _ φ)⟩⟩

theorem Ev_call {f : Str} {fp pos : Pos} {args : List Expr} {n : Nat} (hx : C.env.kindOf f = some .globalImplicit) (h : Evs C S args fun avs => Calls C.g n f avs Φ) (hn : n ≤ C.n)
    (ha : ∃ x r, starEach args C.env = (false, x) :: r ∧ (starEach args C.env).any (·.1) = false := by exact ⟨_, _, rfl, rfl⟩)
    (hg : ∃ a, FnIs C.g f a)
    (hd : (f == ("__debug__" : Str)) = false := by decide) : Ev C S (.Call (.Name f fp) args [] pos) Φ := by
  refine ⟨fun ok X s Q E p xi rs k => ?_⟩
  obtain ⟨x, r, he, hany⟩ := ha
  obtain ⟨a, hfa, hfo⟩ := hg
  refine wpAny_Call_Name_kw ?_
  refine Calls.Name_function_global ok.kind hx (Calls.loadGlobal_global (by rw [ok.glob]; exact p.top.g) hfa ?_) hd
  have hb' : ∃ x' r', backTo pos (starEach args C.env) = (false, x') :: r' := by rw [he]; exact ⟨_, _, rfl⟩
  obtain ⟨x', r', hb'⟩ := hb'
  obtain ⟨o, fd, ho, hd⟩ := hfo _ p
  refine Calls.callWith_function (o := o) (fd := fd) ?_
  rw [hb']
  refine Calls.evalArgs_plain ?_
  rw [← hb']
  refine h.go ok pos X s _ E p xi rs fun avs vs h₁ t₁ st₁ ra _ hc => ?_
  obtain ⟨a', ⟨hfa', _⟩, hc⟩ := hc
  rw [hfa] at hfa'
  cases hfa'
  exact ⟨⟨st₁ _ _ ho, hd⟩, hc.go C.A X _ vs Q E (ok.room.le hn) (p.st st₁) (xi.st st₁) ra fun av v h' tk st r φ => k av v h' tk (st₁.trans st) r φ⟩

-- built-ins
theorem CallB_abs {a : Int} (h : Φ (.int (if a < 0 then -a else a))) : CallB C (.builtin "abs") [.int a] Φ := by
  refine ⟨?_⟩
  rintro _ X s vs Q E _ _ ⟨v, r, rfl, ⟨t, rfl⟩, rfl⟩ k
  exact PyProof.Rows.call_abs_int fun u tk => k (.int _) _ s.heap tk (StIn.refl _) ⟨_, rfl⟩ h
theorem CallB_divmod {a b : Int} (hb : b ≠ 0) (h : Φ (.tup [.int (a.fdiv b), .int (a.fmod b)])) : CallB C (.builtin "divmod") [.int a, .int b] Φ := by
  refine ⟨?_⟩
  rintro ok X s vs Q E p xi ⟨v, r, rfl, ⟨t, rfl⟩, ⟨v', r', rfl, ⟨t', rfl⟩, rfl⟩⟩ k
  exact PyProof.Rows.divmod_int hb (k (.tup [.int (a.fdiv b), .int (a.fmod b)]) _ _ _ (StIn.push _ _) ⟨_, [_, _], rfl, ⟨_, Heap.get?_push_size _ rfl, rfl, 0, rfl⟩, ⟨_, _, rfl, ⟨_, rfl⟩, _, _, rfl, ⟨_, rfl⟩, rfl⟩⟩ h) (.inr (ok.pylong p))
theorem CallB_len {l : List AV} (hl : l.length < 2 ^ 60) (h : Φ (.int l.length)) : CallB C (.builtin "len") [.lst l] Φ := by
  refine ⟨?_⟩
  rintro ok X s vs Q E p xi ⟨v, r, rfl, ⟨a, vs', rfl, hx, hl', hr⟩, rfl⟩ k
  have e : vs'.toArray.size = l.length := by rw [List.size_toArray, hr.length]
  refine Calls.call_len_list hl' (by rw [e]; omega) (k (.int _) _ s.heap _ (StIn.refl _) ⟨_, by rw [e]⟩ h)
theorem CallB_lenT {l : List AV} (hl : l.length < 2 ^ 60) (h : Φ (.int l.length)) : CallB C (.builtin "len") [.tup l] Φ := by
  refine ⟨?_⟩
  rintro ok X s vs Q E p xi ⟨v, r, rfl, ⟨a, vs', rfl, hl', hr⟩, rfl⟩ k
  have e : vs'.toArray.size = l.length := by rw [List.size_toArray, hr.length]
  refine PyProof.Rows.len_tuple hl' (by rw [e]; omega) (k (.int _) _ s.heap _ (StIn.refl _) ⟨_, by rw [e]⟩ h)
theorem CallB_isint {a : Int} (h : Φ (.bool true)) : CallB C (.builtin "isinstance") [.int a, .ty "int"] Φ := by
  refine ⟨?_⟩
  rintro _ X s vs Q E _ _ ⟨v, r, rfl, ⟨t, rfl⟩, ⟨v', r', rfl, e, rfl⟩⟩ k
  obtain rfl : v' = .type "int" := e
  exact IsiPair.int_int (k (.bool _) _ s.heap s.toks (StIn.refl _) rfl h)
theorem CallB_isbool {a : Int} (h : Φ (.bool false)) : CallB C (.builtin "isinstance") [.int a, .ty "bool"] Φ := by
  refine ⟨?_⟩
  rintro _ X s vs Q E _ _ ⟨v, r, rfl, ⟨t, rfl⟩, ⟨v', r', rfl, e, rfl⟩⟩ k
  obtain rfl : v' = .type "bool" := e
  exact IsiPair.int_bool (k (.bool _) _ s.heap _ (StIn.refl _) rfl h)
theorem CallB_range1 {n : Int} (h : Φ (.rng 0 n 1)) : CallB C (.type "range") [.int n] Φ := by
  refine ⟨?_⟩
  rintro _ X s vs Q E _ _ ⟨v, r, rfl, ⟨t, rfl⟩, rfl⟩ k
  exact call_range_1 (k (.rng _ _ _) _ _ _ (StIn.push _ _) ⟨_, _, _, _, rfl, Heap.get?_push_size _ rfl⟩ h)
theorem CallB_range2 {a b : Int} (h : Φ (.rng a b 1)) : CallB C (.type "range") [.int a, .int b] Φ := by
  refine ⟨?_⟩
  rintro _ X s vs Q E _ _ ⟨v, r, rfl, ⟨t, rfl⟩, ⟨v', r', rfl, ⟨t', rfl⟩, rfl⟩⟩ k
  exact call_range_2 (k (.rng _ _ _) _ _ _ (StIn.push _ _) ⟨_, _, _, _, rfl, Heap.get?_push_size _ rfl⟩ h)
theorem CallB_range3 {a b c : Int} (hc : c ≠ 0) (h : Φ (.rng a b c)) : CallB C (.type "range") [.int a, .int b, .int c] Φ := by
  refine ⟨?_⟩
  rintro ok X s vs Q E p _ ⟨v, r, rfl, ⟨t, rfl⟩, ⟨v', r', rfl, ⟨t', rfl⟩, ⟨v'', r'', rfl, ⟨t'', rfl⟩, rfl⟩⟩⟩ k
  exact call_range_3 hc (k (.rng _ _ _) _ _ _ (StIn.push _ _) ⟨_, _, _, _, rfl, Heap.get?_push_size _ rfl⟩ h) (.inr (ok.pylong p))
theorem CallB_max {a b : Int} (h : Φ (.int (max a b))) : CallB C (.builtin "max") [.int a, .int b] Φ := by
  refine ⟨?_⟩
  rintro ok X s vs Q E _ _ ⟨v, r, rfl, ⟨t, rfl⟩, ⟨v', r', rfl, ⟨t', rfl⟩, rfl⟩⟩ k
  refine max_two_ints ok.room.hh fun h' tk st => k (.int _) _ h' tk st ?_ h
  by_cases hab : b > a
  · rw [if_pos hab]; exact ⟨_, by rw [Int.max_eq_right (by omega)]⟩
  · rw [if_neg hab]; exact ⟨_, by rw [Int.max_eq_left (by omega)]⟩
theorem CallB_min {a b : Int} (h : Φ (.int (min a b))) : CallB C (.builtin "min") [.int a, .int b] Φ := by
  refine ⟨?_⟩
  rintro ok X s vs Q E _ _ ⟨v, r, rfl, ⟨t, rfl⟩, ⟨v', r', rfl, ⟨t', rfl⟩, rfl⟩⟩ k
  refine min_two_ints ok.room.hh fun h' tk st => k (.int _) _ h' tk st ?_ h
  by_cases hab : b < a
  · rw [if_pos hab]; exact ⟨_, by rw [Int.min_eq_right (by omega)]⟩
  · rw [if_neg hab]; exact ⟨_, by rw [Int.min_eq_left (by omega)]⟩
theorem CallB_int {a : Int} (h : Φ (.int a)) : CallB C (.type "int") [.int a] Φ := by
  refine ⟨?_⟩
  rintro _ X s vs Q E _ _ ⟨v, r, rfl, ⟨t, rfl⟩, rfl⟩ k
  exact call_int_int (k (.int _) _ s.heap s.toks (StIn.refl _) ⟨_, rfl⟩ h)

abbrev IL (l : List Int) : List AV := l.map AV.int
theorem RelVs.ints {X : List Addr} {h : Heap} : ∀ {l : List Int} {vs : List Value}, RelVs X h (Mine.IL l) vs → IntsAre vs l
  | [], vs, r => by rw [show vs = [] from r]; exact .nil
  | n :: l, vs, ⟨v, r, e, ⟨t, hv⟩, h2⟩ => by rw [e, hv]; exact .cons n t h2.ints
theorem RelVs.of_ints {X : List Addr} {h : Heap} : ∀ {l : List Int} {vs : List Value}, IntsAre vs l → RelVs X h (Mine.IL l) vs
  | _, _, .nil => rfl
  | _, _, .cons n t r => ⟨_, _, rfl, ⟨t, rfl⟩, RelVs.of_ints r⟩

theorem CallB_sum {l : List Int} (h : Φ (.int l.sum)) : CallB C (.builtin "sum") [.lst (IL l)] Φ := by
  refine ⟨?_⟩
  rintro ok X s vs Q E _ _ ⟨v, r, rfl, ⟨a, vs', rfl, hx, hl', hr⟩, rfl⟩ k
  have hi := hr.ints
  obtain ⟨xs, hxs⟩ := hi.allInts.items
  rw [hxs] at hl'
  refine sum_intListG ok.room.hh hl' fun h' tk t' st => k (.int _) _ h' tk st ⟨t', ?_⟩ h
  have e1 : numsOf vs' = l := hi.numsOf
  have e2 : numsOf (intItems xs).toList = xs.toList.map (·.1) := nums_intItems xs
  rw [← hxs] at e2
  have e3 : xs.toList.map (·.1) = l := by rw [← e2]; exact e1
  rw [preSum_eq, List.take_of_length_le (by simp), e3]

-- items
structure Itm (C : CX) (o i : AV) (Φ : AV → Prop) : Prop where
  go : C.Ok → ∀ (X : List Addr) (s : Shared) (vo vi : Value) (Q : Value → Shared → Prop) (E : Value → Shared → Prop), PG C.g s.heap → XIn X s.heap → RelV X s.heap o vo → RelV X s.heap i vi →
    (∃ T id, s.TypeIs vo T ∧ typeLookup (.type T) "__getitem__" = pure (some (.builtin id))) ∧
    ((∀ av v h' tk, StIn s.heap h' → RelV X h' av v → Φ av → Q v { s with heap := h', toks := tk }) → wpAny (model C.g.prog C.g.w) C.A (getItem vo vi) Q E s)

theorem Ev_item {value slice : Expr} {pos : Pos} (h : Ev C S value fun o => Ev C S slice fun i => Itm C o i Φ)
    (hs : ∀ o i, subscripted slice false o i = operate [o, i] (getItem o i) := by intro _ _; with_unfolding_all rfl) : Ev C S (.Subscript value slice pos) Φ := by
  refine ⟨fun ok X s Q E p xi rs k => ?_⟩
  refine PyProof.Rows.Subscript_ (h.go ok X s _ E p xi rs fun o vo h₁ t₁ st₁ ro hb => ?_)
  refine hb.go ok X _ _ E (p.st st₁) (xi.st st₁) (rs.st st₁) fun i vi h₂ t₂ st₂ ri hc => ?_
  obtain ⟨⟨T, id, hT, hl⟩, hc⟩ := hc.go ok X { s with heap := h₂, toks := t₂ } vo vi Q E ((p.st st₁).st st₂) ((xi.st st₁).st st₂) (ro.st st₂) ri
  exact PyProof.Rows.tail_any hT hl (hc fun av v h' tk st r φ => k av v h' tk (st₁.trans (st₂.trans st)) r φ) (hs vo vi)

theorem Itm_list {l : List AV} {i : Int} {av : AV} (h0 : 0 ≤ i) (hi : i < 2 ^ 60) (hx : l[i.toNat]? = some av) (h : Φ av) : Itm C (.lst l) (.int i) Φ := by
  refine ⟨?_⟩
  rintro ok X s vo vi Q E p xi ⟨a, vs, rfl, hax, hl, hr⟩ ⟨t, rfl⟩
  refine ⟨⟨_, _, hl.typeIs, slot_list_getitem.lookup⟩, fun k => ?_⟩
  obtain ⟨v, hv, rv⟩ := hr.get i.toNat av hx
  exact wpAny_getItem_list hl h0 (by omega) (by simpa using hv) (k av v s.heap s.toks (StIn.refl _) rv h)
theorem Itm_listN {l : List AV} {i : Int} {av : AV} (h0 : i < 0) (h1 : -(l.length : Int) ≤ i) (hi : -(2 ^ 60) ≤ i) (hx : l[(i + l.length).toNat]? = some av) (h : Φ av) : Itm C (.lst l) (.int i) Φ := by
  refine ⟨?_⟩
  rintro ok X s vo vi Q E p xi ⟨a, vs, rfl, hax, hl, hr⟩ ⟨t, rfl⟩
  refine ⟨⟨_, _, hl.typeIs, slot_list_getitem.lookup⟩, fun k => ?_⟩
  obtain ⟨v, hv, rv⟩ := hr.get _ av hx
  exact wpAny_getItem_list_neg hl h0 (by rw [List.size_toArray, hr.length]; exact h1) (by omega) (by rw [List.size_toArray, hr.length]; simpa using hv) (k av v s.heap s.toks (StIn.refl _) rv h)
theorem Itm_tup {l : List AV} {i : Int} {j : Nat} {av : AV} (hi : -(2 ^ 60) ≤ i ∧ i < 2 ^ 60) (hj : seqIndex? i l.length = some j) (hx : l[j]? = some av) (h : Φ av) : Itm C (.tup l) (.int i) Φ := by
  refine ⟨?_⟩
  rintro ok X s vo vi Q E p xi ⟨a, vs, rfl, hl, hr⟩ ⟨t, rfl⟩
  refine ⟨⟨_, _, hl.typeIs, PyProof.Rows.slot_tuple_getitem.lookup⟩, fun k => ?_⟩
  obtain ⟨v, hv, rv⟩ := hr.get _ av hx
  exact PyProof.Rows.getItem_tuple hl (by omega) (by omega) (by rw [List.size_toArray, hr.length]; exact hj) (by simpa using hv) (k av v s.heap s.toks (StIn.refl _) rv h)

-- slices
def pickL {α : Type} (l : List α) (lo hi st : Option Int) : List α :=
  (sliceRange (sliceBounds lo hi st l.length).1 (sliceBounds lo hi st l.length).2.1 (sliceBounds lo hi st l.length).2.2).filterMap (l[·]?)
theorem slicePick_list (vs : List Value) (lo hi st : Option Int) : slicePick vs.toArray lo hi st = (pickL vs lo hi st).toArray := by
  simp [slicePick, pickL]
theorem RelVs.filterMap {X : List Addr} {h : Heap} {l : List AV} {vs : List Value} (r : RelVs X h l vs) : ∀ ix : List Nat, RelVs X h (ix.filterMap (l[·]?)) (ix.filterMap (vs[·]?))
  | [] => rfl
  | i :: ix => by
    rw [List.filterMap_cons, List.filterMap_cons]
    cases hl : l[i]? with
    | none =>
      have hlen := r.length
      have : vs[i]? = none := by rw [List.getElem?_eq_none_iff] at hl ⊢; omega
      rw [this]; exact RelVs.filterMap r ix
    | some a =>
      obtain ⟨v, hv, rv⟩ := r.get i a hl
      rw [hv]; exact ⟨v, _, rfl, rv, RelVs.filterMap r ix⟩
theorem RelVs.pick {X : List Addr} {h : Heap} {l : List AV} {vs : List Value} (r : RelVs X h l vs) (lo hi st : Option Int) : RelVs X h (pickL l lo hi st) (pickL vs lo hi st) := by
  unfold pickL; rw [r.length]; exact r.filterMap _

/-- a part of a slice -/
def EvPart (C : CX) (S : AS) (e : Option Expr) (Φ : Option Int → Prop) : Prop := match e with
  | none => Φ none
  | some e => Ev C S e fun a => match a with | .int i => Φ (some i) | _ => False
theorem EvPart.run {e : Option Expr} {Φ : Option Int → Prop} (h : EvPart C S e Φ) (ok : C.Ok) {X : List Addr} {s : Shared} {Q : Value → Shared → Prop} {E : Value → Shared → Prop} (p : PG C.g s.heap) (xi : XIn X s.heap) (rs : RelS C.env X s.heap S)
    (k : ∀ v i h' tk, StIn s.heap h' → IsPart v i → Φ i → Q v { s with heap := h', toks := tk }) : wpAny (model C.g.prog C.g.w) C.A (evalPart e C.env) Q E s := by
  cases e with
  | none => exact wpAny_pure (k .none none s.heap s.toks (StIn.refl _) .none h)
  | some e =>
    rw [evalPart_some]
    refine Ev.go h ok X s Q E p xi rs fun a v h' tk st r φ => ?_
    cases a <;> simp only at φ
    obtain ⟨t, rfl⟩ := r
    exact k _ _ h' tk st (.int _ t) φ

theorem Ev_slice {value : Expr} {lo hi st : Option Expr} {p pos : Pos}
    (h : Ev C S value fun o => EvPart C S lo fun a => EvPart C S hi fun b => EvPart C S st fun c => ∃ l, o = .lst l ∧ c ≠ some 0 ∧ l.length ≤ 2 ^ 20 ∧ Φ (.lst (pickL l a b c)))
    (hs : ∀ o i, ∃ ops, subscripted (.Slice lo hi st p) false o i = operate ops (getItem o i) := by intro _ _; exact ⟨_, by with_unfolding_all rfl⟩) : Ev C S (.Subscript value (.Slice lo hi st p) pos) Φ := by
  refine ⟨fun ok X s Q E pg xi rs k => ?_⟩
  refine PyProof.Rows.Subscript_ (h.go ok X s _ E pg xi rs fun o vo h₁ t₁ st₁ ro hb => ?_)
  refine wpAny_Slice ?_
  refine hb.run ok (X := X) (pg.st st₁) (xi.st st₁) (rs.st st₁) fun va a h₂ t₂ st₂ pa hb => ?_
  refine hb.run ok (X := X) ((pg.st st₁).st st₂) ((xi.st st₁).st st₂) ((rs.st st₁).st st₂) fun vb b h₃ t₃ st₃ pb hb => ?_
  refine hb.run ok (X := X) (((pg.st st₁).st st₂).st st₃) (((xi.st st₁).st st₂).st st₃) (((rs.st st₁).st st₂).st st₃) fun vc c h₄ t₄ st₄ pc hb => ?_
  obtain ⟨l, rfl, hc0, hlen, φ⟩ := hb
  have ro' := ((ro.st st₂).st st₃).st st₄
  obtain ⟨a', vs, rfl, hax, hl, hr⟩ := ro'
  obtain ⟨ops, hs⟩ := hs (.ref a') (.ref h₄.objs.size)
  have hl' := hl.push { cls := .type "slice", data := .fields #[va, vb, vc] }
  refine PyProof.Rows.tail_any (s := { s with heap := h₄.push { cls := .type "slice", data := .fields #[va, vb, vc] }, toks := t₄ }) (Heap.IsList.typeIs hl') slot_list_getitem.lookup (wpAny_getItem_list_slice hl' (Heap.IsSliceOf.new ..) pa pb pc hc0 ?_ ?_) hs
  · rw [slicePick_list]
    have stA : StIn s.heap h₄ := st₁.trans (st₂.trans (st₃.trans st₄))
    have stB := stA.trans (StIn.push h₄ { cls := .type "slice", data := .fields #[va, vb, vc] })
    have stC := StIn.push (h₄.push { cls := .type "slice", data := .fields #[va, vb, vc] }) { cls := .type "list", data := .seq (pickL vs a b c).toArray }
    exact k (.lst (pickL l a b c)) _ _ _ (stB.trans stC) ⟨_, pickL vs a b c, rfl, (xi.st stB).fresh, ⟨_, Heap.get?_push_size _ rfl, rfl, 0, rfl⟩, ((hr.pick a b c).st (StIn.push _ _)).st stC⟩ φ
  · rw [List.size_toArray, hr.length, sizeLine_eq]; omega

/-- two lists one behind the other -/
theorem Bin_addL {l l' : List AV} (hsz : l.length + l'.length ≤ 2 ^ 20) (h : Φ (.lst (l ++ l'))) : Bin C .Add (.lst l) (.lst l') Φ := by
  refine ⟨?_⟩
  rintro ok X s va vb Q E p xi ⟨a, vs, rfl, hax, hl, hr⟩ ⟨a', vs', rfl, hax', hl', hr'⟩ k
  obtain ⟨⟨cls, dd, data, sl⟩, ho, hc, n, hd⟩ := id hl
  obtain ⟨⟨cls2, dd2, data2, sl2⟩, ho2, hc2, n2, hd2⟩ := id hl'
  simp only at hc hd hc2 hd2
  subst hc hd hc2 hd2
  have e : vs.toArray ++ vs'.toArray = (vs ++ vs').toArray := by simp
  refine concat_meets ⟨_, ho, rfl⟩ ⟨_, ho2, rfl⟩ noFill_list_add seq_list_add PySem.F.slot_list_add PySem.F.entry_list_add (PySem.F.args_list_add_2 _ _)
    (list_addW a a' vs.toArray vs'.toArray n n2 dd dd2 sl sl2 (by rw [List.size_toArray, List.size_toArray, hr.length, hr'.length, sizeLine_eq]; omega)) ⟨ho, ho2, ?_⟩
  rw [e]
  exact k (.lst (l ++ l')) _ _ _ (StIn.push _ _) ⟨_, vs ++ vs', rfl, xi.fresh, ⟨_, Heap.get?_push_size _ rfl, rfl, 0, rfl⟩, (hr.append hr').st (StIn.push _ _)⟩ h
variable {C : CX} {S : AS}

inductive AFl where
  | next | brk | cont
  | ret (v : AV)

def RelFl (X : List Addr) (h : Heap) : AFl → Flow → Prop
  | .next, f => f = .next
  | .brk, f => f = .brk
  | .cont, f => f = .cont
  | .ret av, f => ∃ v, f = .ret v ∧ RelV X h av v

def AS.set (S : AS) (x : Str) (av : AV) : AS := { S with vs := (x, av) :: S.vs }
def AS.off (S : AS) (x : Str) : Prop := match S.own with | none => True | some (y, _) => (y == x) = false
def AS.le (S S' : AS) : Prop := (∀ x av, S'.vs.lookup x = some av → S.vs.lookup x = some av) ∧ S.own = S'.own

/-- the own list, if there is one -/
def OwnOk (C : CX) (s₀ : Shared) (X₀ : List Addr) (h : Heap) : Option (Str × List AV) → Option Addr → Prop
  | none, none => True
  | some (x, l), some b => (∃ vs, OwnAt C.env (b :: X₀) h x l b vs) ∧ s₀.heap.objs.size ≤ b
  | none, some _ => False
  | some _, none => False

/-- the frame at hand -/
structure FS (C : CX) (s₀ : Shared) (X₀ : List Addr) (β : Option Addr) (S : AS) (s : Shared) : Prop where
  call : ∃ m cm, InCallC s₀ C.env.locals m C.env.cells cm s
  vars : RelE C.env (β.toList ++ X₀) s.heap S.vs
  own : OwnOk C s₀ X₀ s.heap S.own β
  xin : XIn X₀ s₀.heap

theorem FS.same {s₀ s : Shared} {X₀ : List Addr} {β : Option Addr} (F : FS C s₀ X₀ β S s) : ∃ h tk, s = { s₀ with heap := h, toks := tk } := let ⟨_, _, c⟩ := F.call; c.toInCall.same
theorem FS.keep {s₀ s : Shared} {X₀ : List Addr} {β : Option Addr} (F : FS C s₀ X₀ β S s) : StIn s₀.heap s.heap := let ⟨_, _, c⟩ := F.call; c.toInCall.keep
theorem FS.relS {s₀ s : Shared} {X₀ : List Addr} {β : Option Addr} (F : FS C s₀ X₀ β S s) : RelS C.env (β.toList ++ X₀) s.heap S := by
  refine ⟨F.vars, fun x l e => ?_⟩
  have h := F.own
  rw [e] at h
  cases β with
  | none => exact h.elim
  | some b => obtain ⟨⟨vs, o⟩, _⟩ := h; exact ⟨b, vs, o⟩
theorem FS.xinh {s₀ s : Shared} {X₀ : List Addr} {β : Option Addr} (F : FS C s₀ X₀ β S s) : XIn (β.toList ++ X₀) s.heap := by
  intro a ha
  rcases List.mem_append.mp ha with h | h
  · cases β with
    | none => cases h
    | some b =>
      obtain rfl : a = b := by simpa using h
      have h := F.own
      cases ho : S.own with
      | none => rw [ho] at h; exact h.elim
      | some p =>
        rw [ho] at h
        obtain ⟨⟨vs, o⟩, _⟩ := h
        obtain ⟨n, hb⟩ := o.lst
        rw [hb]; rfl
  · exact (F.xin.st F.keep) a h

theorem Ns.uniq {h : Heap} {a : Addr} {m m' : Str → Option Value} (x : h.Ns a m) (y : h.Ns a m') : m = m' := by
  obtain ⟨o, es, ep, h1, h2, _, h4⟩ := x
  obtain ⟨o', es', ep', g1, g2, _, g4⟩ := y
  rw [h1] at g1; cases g1
  rw [h2] at g2; cases g2
  funext n; rw [← h4 n, ← g4 n]

/-- all but the frame's own and the own list stands -/
def FKeep (C : CX) (β : Option Addr) (h h' : Heap) : Prop := ∀ a o, a ≠ C.env.locals → (∀ x, C.env.cells.lookup x ≠ some a) → β ≠ some a → h.get? a = some o → h'.get? a = some o
def BEv (β : Option Addr) (h : Heap) (β' : Option Addr) : Prop := ∀ b, β' = some b → β = some b ∨ h.get? b = none
theorem FKeep.of {β : Option Addr} {h h' : Heap} (x : StIn h h') : FKeep C β h h' := fun a o _ _ _ e => x a o e
theorem BEv.refl (β : Option Addr) (h : Heap) : BEv β h β := fun _ e => .inl e
theorem FKeep.trans {β β' : Option Addr} {h h' h'' : Heap} (x : FKeep C β h h') (b : BEv β h β') (y : FKeep C β' h' h'') : FKeep C β h h'' := by
  intro a o h1 h2 h3 e
  refine y a o h1 h2 (fun hb => ?_) (x a o h1 h2 h3 e)
  rcases b a hb with hb | hb
  · exact h3 hb
  · rw [e] at hb; cases hb

/-- where the frame's own stand, and the own list -/
structure FFr (C : CX) (β : Option Addr) (h : Heap) : Prop where
  loc : ∃ m, h.Ns C.env.locals m
  cel : ∀ x c, C.env.cells.lookup x = some c → ∃ v, h.IsCell c v
  own : ∀ b, β = some b → ∃ vs, h.PlainList b vs
theorem FS.ffr {s₀ s : Shared} {X₀ : List Addr} {β : Option Addr} (F : FS C s₀ X₀ β S s) : FFr C β s.heap := by
  obtain ⟨m, cm, c⟩ := F.call
  refine ⟨⟨m, c.toInCall.ns⟩, fun x a e => ⟨_, c.cell x a e⟩, fun b e => ?_⟩
  subst e
  have h := F.own
  cases ho : S.own with
  | none => rw [ho] at h; exact h.elim
  | some p => rw [ho] at h; obtain ⟨⟨vs, o⟩, _⟩ := h; exact ⟨_, o.lst⟩
theorem BEv.trans {β β' β'' : Option Addr} {h h' : Heap} (x : BEv β h β') (y : BEv β' h' β'') (k : FKeep C β h h') (f' : FFr C β' h') : BEv β h β'' := by
  intro b e
  rcases y b e with e | e
  · exact x b e
  · cases hq : h.get? b with
    | none => exact .inr rfl
    | some o =>
      by_cases h1 : b = C.env.locals
      · obtain ⟨m, o', _, _, ho', _⟩ := f'.loc
        rw [h1, ho'] at e; cases e
      · by_cases h3 : β = some b
        · exact .inl h3
        · by_cases h2 : ∃ x, C.env.cells.lookup x = some b
          · obtain ⟨x, h2⟩ := h2
            obtain ⟨v, o', ho', _⟩ := f'.cel x b h2
            rw [ho'] at e; cases e
          · rw [k b o h1 (fun x hx => h2 ⟨x, hx⟩) h3 hq] at e; cases e
theorem FKeep.vkeep {β : Option Addr} {h h' : Heap} {X₀ : List Addr} (x : FKeep C β h h') (f : FFr C β h) : VKeep (β.toList ++ X₀) h h' := by
  have hL : ∀ a o, isVal o → h.get? a = some o → a ≠ C.env.locals := by
    rintro a o hv e rfl
    obtain ⟨m, o', es, ep, ho', hd, _⟩ := f.loc
    rw [e] at ho'; cases ho'
    rcases hv with ⟨xs, n, q⟩ | ⟨_, fs, q⟩ <;> rw [hd] at q <;> cases q
  have hC : ∀ a o, isVal o → h.get? a = some o → ∀ x, C.env.cells.lookup x ≠ some a := by
    intro a o hv e x hx
    obtain ⟨v, o', ho', hd⟩ := f.cel x a hx
    rw [e] at ho'; cases ho'
    rcases hv with ⟨xs, n, q⟩ | ⟨_, fs, q⟩ <;> rw [hd] at q <;> cases q
  refine ⟨fun a o ha hv e => x a o (hL a o hv e) (hC a o hv e) (fun hb => ha ?_) e, fun a o hv hc e => x a o (hL a o hv e) (hC a o hv e) (fun hb => hc ?_) e⟩
  · subst hb; simp
  · obtain ⟨vs, n, ho⟩ := f.own a hb
    rw [e] at ho; cases ho; rfl

/-- a store of a name -/
theorem store_rel {s₀ s : Shared} {X₀ : List Addr} {β : Option Addr} {x : Str} {av : AV} {v : Value} {M : Model} {A : Around} {Q : Unit → Shared → Prop} {E : Value → Shared → Prop} (ok : C.Ok) (F : FS C s₀ X₀ β S s) (hv : RelV (β.toList ++ X₀) s.heap av v)
    (hx : C.env.kindOf x = some .local ∨ (C.env.kindOf x = some .cell ∧ (C.env.cells.lookup x).isSome = true)) (hown : S.off x)
    (k : ∀ h' tk, FS C s₀ X₀ β (S.set x av) { s with heap := h', toks := tk } → FKeep C β s.heap h' → Q () { s with heap := h', toks := tk }) : wpAny M A (storeName C.env x v) Q E s := by
  obtain ⟨m, cm, c⟩ := F.call
  have fin : ∀ (h' : Heap) (tk : Nat), (∃ m cm, InCallC s₀ C.env.locals m C.env.cells cm { s with heap := h', toks := tk }) → FKeep C β s.heap h' → (∀ a o, isVal o → s.heap.get? a = some o → h'.get? a = some o) → Rd C.env h' x v → (∀ y w, (y == x) = false → Rd C.env s.heap y w → Rd C.env h' y w) → Q () { s with heap := h', toks := tk } := by
    intro h' tk hc fk hk hr hy
    have vk : ∀ X, VKeep X s.heap h' := fun X => ⟨fun a o _ hv e => hk a o hv e, fun a o hv _ e => hk a o hv e⟩
    refine k h' tk ⟨hc, ?_, ?_, F.xin⟩ fk
    · intro y aw e
      simp only [AS.set, List.lookup_cons] at e
      cases hb : y == x with
      | true =>
        rw [hb] at e; cases e
        rw [beq_iff_eq.mp hb]
        exact ⟨v, hr, hv.keep (vk _)⟩
      | false =>
        rw [hb] at e
        obtain ⟨w, h1, h2⟩ := F.vars y aw e
        exact ⟨w, hy y w hb h1, h2.keep (vk _)⟩
    · have h := F.own
      show OwnOk C s₀ X₀ h' S.own β
      cases ho : S.own with
      | none => rw [ho] at h; cases β with | none => trivial | some _ => exact h
      | some p =>
        obtain ⟨y, l⟩ := p
        rw [ho] at h
        cases β with
        | none => exact h
        | some b =>
          obtain ⟨⟨vs, o⟩, h1⟩ := h
          unfold AS.off at hown
          rw [ho] at hown
          obtain ⟨n, hb⟩ := o.lst
          exact ⟨⟨vs, hy y _ hown o.rd, o.inX, ⟨n, hk _ _ (.inl ⟨_, n, rfl⟩) hb⟩, o.rel.keep (vk _)⟩, h1⟩
  have fr := F.ffr
  have valL : ∀ a o, isVal o → s.heap.get? a = some o → a ≠ C.env.locals := by
    rintro a o hv e rfl
    obtain ⟨m, o', es, ep, ho', hd, _⟩ := fr.loc
    rw [e] at ho'; cases ho'
    rcases hv with ⟨xs, n, q⟩ | ⟨_, fs, q⟩ <;> rw [hd] at q <;> cases q
  have valC : ∀ a o, isVal o → s.heap.get? a = some o → ∀ x, C.env.cells.lookup x ≠ some a := by
    intro a o hv e x hx
    obtain ⟨v, o', ho', hd⟩ := fr.cel x a hx
    rw [e] at ho'; cases ho'
    rcases hv with ⟨xs, n, q⟩ | ⟨_, fs, q⟩ <;> rw [hd] at q <;> cases q
  rcases hx with hl | ⟨hl, hc⟩
  · refine wpAny_storeName_local hl c.toInCall.ns (fun h' hn' hs' => ?_) (by rw [ok.kind]; rfl)
    refine fin h' _ ⟨_, cm, ⟨⟨?_, hn', fun b o e => ?_, c.toInCall.fresh⟩, fun k' c' hc' => ?_, c.apart, c.above⟩⟩ ?_ ?_ (.inl ⟨hl, _, hn', by simp⟩) ?_
    · obtain ⟨h₁, tk, e⟩ := c.toInCall.same
      exact ⟨h', _, by rw [e]⟩
    · exact hs'.extBut b o (Nat.ne_of_lt (Nat.lt_of_lt_of_le (Heap.lt_size e) c.toInCall.fresh)) (c.toInCall.keep b o e)
    · exact (c.cell k' c' hc').sameBut hs' (Nat.ne_of_gt (c.above k' c' (mem_of_lookup hc')))
    · exact fun a o h1 _ _ e => hs'.extBut a o h1 e
    · exact fun a o hv e => hs'.extBut a o (valL a o hv e) e
    · rintro y w hy (⟨hk, m', hn, hw⟩ | ⟨hk, c', hc', hw⟩)
      · refine .inl ⟨hk, _, hn', ?_⟩
        rw [Ns.uniq hn c.toInCall.ns] at hw
        show (if y = x then some v else m y) = some w
        rw [if_neg (by intro e; rw [e] at hy; simp at hy)]; exact hw
      · exact .inr ⟨hk, c', hc', hw.sameBut hs' (Nat.ne_of_gt (c.above y c' (mem_of_lookup hc')))⟩
  · obtain ⟨cc, hc⟩ := Option.isSome_iff_exists.mp hc
    have hLc := c.above x cc (mem_of_lookup hc)
    refine wpAny_storeName_cell ok.kind hl hc (c.cell x cc hc) fun h' hc' hs' => ?_
    refine fin h' s.toks ⟨m, (fun y => if y = x then some v else cm y), ⟨⟨?_, c.toInCall.ns.sameBut hs' (Nat.ne_of_lt hLc), fun b o e => ?_, c.toInCall.fresh⟩, fun k' c' hk' => ?_, c.apart, c.above⟩⟩ ?_ ?_ (.inr ⟨.inl hl, cc, hc, hc'⟩) ?_
    · obtain ⟨h₁, tk, e⟩ := c.toInCall.same
      exact ⟨h', s.toks, by rw [e]⟩
    · exact hs'.extBut b o (Nat.ne_of_lt (Nat.lt_trans (Nat.lt_of_lt_of_le (Heap.lt_size e) c.toInCall.fresh) hLc)) (c.toInCall.keep b o e)
    · by_cases hkn : k' = x
      · subst hkn
        rw [hc] at hk'; cases hk'
        simpa using hc'
      · rw [if_neg hkn]
        exact (c.cell k' c' hk').sameBut hs' fun e => hkn (name_of_addr c.apart (mem_of_lookup hk') (e ▸ mem_of_lookup hc))
    · exact fun a o _ h2 _ e => hs'.extBut a o (fun q => h2 x (q ▸ hc)) e
    · exact fun a o hv e => hs'.extBut a o (fun q => valC a o hv e x (q ▸ hc)) e
    · rintro y w hy (⟨hk, m', hn, hw⟩ | ⟨hk, c', hc'', hw⟩)
      · exact .inl ⟨hk, m', hn.sameBut hs' (Nat.ne_of_lt hLc), hw⟩
      · refine .inr ⟨hk, c', hc'', hw.sameBut hs' fun e => ?_⟩
        have := name_of_addr c.apart (mem_of_lookup hc'') (e ▸ mem_of_lookup hc)
        rw [this] at hy; simp at hy

/-- statements: no exception leaves them -/
structure Ex (C : CX) (S : AS) (st : List Stmt) (Ψ : AFl → AS → Prop) : Prop where
  go : C.Ok → ∀ (s₀ : Shared) (X₀ : List Addr) (β : Option Addr) (s : Shared) (Q : Flow → Shared → Prop), PG C.g s₀.heap → FS C s₀ X₀ β S s →
    (∀ afl fl S' β' h' tk, FS C s₀ X₀ β' S' { s with heap := h', toks := tk } → FKeep C β s.heap h' → BEv β s.heap β' → RelFl X₀ h' afl fl → Ψ afl S' → Q fl { s with heap := h', toks := tk }) →
    wpAny (model C.g.prog C.g.w) C.A (execs st C.env) Q (fun _ _ => False) s
/-- one statement -/
structure ExS (C : CX) (S : AS) (st : Stmt) (Ψ : AFl → AS → Prop) : Prop where
  go : C.Ok → ∀ (s₀ : Shared) (X₀ : List Addr) (β : Option Addr) (s : Shared) (Q : Flow → Shared → Prop), PG C.g s₀.heap → FS C s₀ X₀ β S s →
    (∀ afl fl S' β' h' tk, FS C s₀ X₀ β' S' { s with heap := h', toks := tk } → FKeep C β s.heap h' → BEv β s.heap β' → RelFl X₀ h' afl fl → Ψ afl S' → Q fl { s with heap := h', toks := tk }) →
    wpAny (model C.g.prog C.g.w) C.A (exec st C.env) Q (fun _ _ => False) s

variable {Ψ : AFl → AS → Prop}

theorem Ex_nil (h : Ψ .next S) : Ex C S [] Ψ := ⟨fun _ _ _ β s _ _ F k => wpAny_execs_nil (k .next .next S β s.heap s.toks F (.of (StIn.refl _)) (.refl _ _) rfl h)⟩
theorem Ex_cons {st : Stmt} {rest : List Stmt} (h : ExS C S st fun fl S' => match fl with | .next => Ex C S' rest Ψ | fl => Ψ fl S') : Ex C S (st :: rest) Ψ := by
  refine ⟨fun ok s₀ X₀ β s Q p F k => ?_⟩
  refine wpAny_execs_cons (h.go ok s₀ X₀ β s _ p F fun afl fl S' β' h' tk F' fk bv rf ψ => ?_)
  cases afl with
  | next =>
    obtain rfl : fl = .next := rf
    exact ψ.go ok s₀ X₀ β' _ Q p F' fun afl fl S'' β'' h'' tk'' F'' fk'' bv'' rf'' ψ'' => k afl fl S'' β'' h'' tk'' F'' (fk.trans bv fk'') (bv.trans bv'' fk F'.ffr) rf'' ψ''
  | brk => obtain rfl : fl = .brk := rf; exact k .brk .brk S' β' h' tk F' fk bv rfl ψ
  | cont => obtain rfl : fl = .cont := rf; exact k .cont .cont S' β' h' tk F' fk bv rfl ψ
  | ret av => obtain ⟨v, rfl, rv⟩ := rf; exact k (.ret av) (.ret v) S' β' h' tk F' fk bv ⟨v, rfl, rv⟩ ψ

theorem FS.st {s₀ s : Shared} {X₀ : List Addr} {β : Option Addr} (F : FS C s₀ X₀ β S s) {h' : Heap} {tk : Nat} (k : StIn s.heap h') : FS C s₀ X₀ β S { s with heap := h', toks := tk } := by
  obtain ⟨m, cm, c⟩ := F.call
  refine ⟨⟨m, cm, ⟨⟨?_, c.toInCall.ns.keeps k, fun b o e => k b o (c.toInCall.keep b o e), c.toInCall.fresh⟩, fun x a e => (c.cell x a e).keeps k, c.apart, c.above⟩⟩, F.vars.st k, ?_, F.xin⟩
  · obtain ⟨h₁, tk₁, e⟩ := c.toInCall.same
    exact ⟨h', tk, by rw [e]⟩
  · have h := F.own
    show OwnOk C s₀ X₀ h' S.own β
    cases ho : S.own with
    | none => rw [ho] at h; cases β with | none => trivial | some _ => exact h
    | some p =>
      rw [ho] at h
      cases β with
      | none => exact h
      | some b => obtain ⟨⟨vs, o⟩, h1⟩ := h; exact ⟨⟨vs, o.st k⟩, h1⟩

theorem FS.weak {s₀ s : Shared} {X₀ : List Addr} {β : Option Addr} {S' : AS} (F : FS C s₀ X₀ β S s) (hl : S.le S') : FS C s₀ X₀ β S' s :=
  ⟨F.call, fun x av e => F.vars x av (hl.1 x av e), hl.2 ▸ F.own, F.xin⟩
theorem FS.dropOwn {s₀ s : Shared} {X₀ : List Addr} {β : Option Addr} (F : FS C s₀ X₀ β S s) : FS C s₀ X₀ none { S with own := none } s :=
  ⟨F.call, fun x av e => let ⟨v, h1, h2⟩ := F.vars x av e; ⟨v, h1, h2.less fun _ hp => List.mem_append_right _ (by simpa using hp)⟩, trivial, F.xin⟩

theorem Ex.weak {S' : AS} {st : List Stmt} (h : Ex C S' st Ψ) (hl : S.le S') : Ex C S st Ψ :=
  ⟨fun ok s₀ X₀ β s Q p F k => h.go ok s₀ X₀ β s Q p (F.weak hl) k⟩
theorem Ex.dropOwn {st : List Stmt} (h : Ex C { S with own := none } st Ψ) : Ex C S st Ψ :=
  ⟨fun ok s₀ X₀ β s Q p F k => h.go ok s₀ X₀ none s Q p F.dropOwn fun afl fl S' β' h' tk F' fk bv rf ψ =>
    k afl fl S' β' h' tk F' (fun a o h1 h2 _ e => fk a o h1 h2 (by simp) e) (fun b e => .inr ((bv b e).resolve_left (by simp))) rf ψ⟩
theorem Ex.mono {st : List Stmt} {Ψ' : AFl → AS → Prop} (h : Ex C S st Ψ) (hp : ∀ fl S, Ψ fl S → Ψ' fl S) : Ex C S st Ψ' :=
  ⟨fun ok s₀ X₀ β s Q p F k => h.go ok s₀ X₀ β s Q p F fun afl fl S' β' h' tk F' fk bv rf ψ => k afl fl S' β' h' tk F' fk bv rf (hp _ _ ψ)⟩
theorem ExS.mono {st : Stmt} {Ψ' : AFl → AS → Prop} (h : ExS C S st Ψ) (hp : ∀ fl S, Ψ fl S → Ψ' fl S) : ExS C S st Ψ' :=
  ⟨fun ok s₀ X₀ β s Q p F k => h.go ok s₀ X₀ β s Q p F fun afl fl S' β' h' tk F' fk bv rf ψ => k afl fl S' β' h' tk F' fk bv rf (hp _ _ ψ)⟩

/-- where a name may be stored -/
def Stb (C : CX) (S : AS) (x : Str) : Prop := (C.env.kindOf x = some .local ∨ (C.env.kindOf x = some .cell ∧ (C.env.cells.lookup x).isSome = true)) ∧ S.off x

theorem ExS_assign {x : Str} {px pos : Pos} {e : Expr} (h : Ev C S e fun av => Ψ .next (S.set x av)) (hx : Stb C S x)
    (hs : swapsWith e (some (.Name x px)) pos.line C.env = pure false := by rfl) : ExS C S (.Assign [.Name x px] e pos) Ψ := by
  refine ⟨fun ok s₀ X₀ β s Q p F k => ?_⟩
  refine wpAny_Assign_Name (h.go ok _ s _ _ (p.st F.keep) F.xinh F.relS fun av v h₁ t₁ st₁ rv ψ => ?_) hs
  exact store_rel ok (F.st (tk := t₁) st₁) rv hx.1 hx.2 fun h' tk F' fk => k .next .next _ β h' tk F' (FKeep.trans (.of st₁) (.refl _ _) fk) (.refl _ _) rfl ψ

theorem ExS_aug {x : Str} {px pos : Pos} {op : Operator} {e : Expr} {av : AV} (hl : S.vs.lookup x = some av) (h : Ev C S e fun b => IBin C op av b fun c => Ψ .next (S.set x c)) (hx : Stb C S x) (hn : (x == ("__classdict__" : Str)) = false := by decide) : ExS C S (.AugAssign (.Name x px) op e pos) Ψ := by
  refine ⟨fun ok s₀ X₀ β s Q p F k => ?_⟩
  obtain ⟨v, hr, hv⟩ := F.vars x av hl
  refine wpAny_AugAssign_Name (load_rd ok.kind hr ?_ hn)
  refine h.go ok _ s _ _ (p.st F.keep) F.xinh F.relS fun b vb h₁ t₁ st₁ rb hc => ?_
  refine hc.go ok _ _ v vb _ _ ((p.st F.keep).st st₁) (F.xinh.st st₁) (hv.st st₁) rb fun c vc h₂ t₂ st₂ rc ψ => ?_
  exact store_rel ok (F.st (tk := t₂) (st₁.trans st₂)) rc hx.1 hx.2 fun h' tk F' fk => k .next .next _ β h' tk F' (FKeep.trans (.of (st₁.trans st₂)) (.refl _ _) fk) (.refl _ _) rfl ψ

theorem ExS_return {e : Expr} {pos : Pos} (h : Ev C S e fun av => Ψ (.ret av) S) : ExS C S (.Return (some e) pos) Ψ := by
  refine ⟨fun ok s₀ X₀ β s Q p F k => ?_⟩
  refine wpAny_Return_some (h.go ok _ s _ _ (p.st F.keep) F.xinh F.relS fun av v h₁ t₁ st₁ rv ψ => ?_)
  exact k (.ret av) (.ret v) S β h₁ t₁ (F.st st₁) (.of st₁) (.refl _ _) ⟨v, rfl, rv.less fun _ hp => List.mem_append_right _ hp⟩ ψ

theorem ExS_if {t : Expr} {a b : List Stmt} {pos : Pos} (h : Tst C S t fun c => if c then Ex C S a Ψ else Ex C S b Ψ) : ExS C S (.If t a b pos) Ψ := by
  refine ⟨fun ok s₀ X₀ β s Q p F k => ?_⟩
  refine wpAny_If (h.go ok _ s _ _ (p.st F.keep) F.xinh F.relS fun c h₁ t₁ st₁ φ => ?_)
  have k' : ∀ afl fl S' β' h' tk, FS C s₀ X₀ β' S' { ({ s with heap := h₁, toks := t₁ } : Shared) with heap := h', toks := tk } → FKeep C β h₁ h' → BEv β h₁ β' → RelFl X₀ h' afl fl → Ψ afl S' → Q fl { ({ s with heap := h₁, toks := t₁ } : Shared) with heap := h', toks := tk } := by
    intro afl fl S' β' h' tk F' fk bv rf ψ
    exact k afl fl S' β' h' tk F' (FKeep.trans (.of st₁) (.refl _ _) fk) (BEv.trans (.refl _ _) bv (.of st₁) (F.st (tk := t₁) st₁).ffr) rf ψ
  cases c with
  | true => exact φ.go ok s₀ X₀ β _ Q p (F.st st₁) k'
  | false => exact φ.go ok s₀ X₀ β _ Q p (F.st st₁) k'
variable {C : CX} {S : AS} {Ψ : AFl → AS → Prop}

/-- while, by an invariant and a measure -/
theorem ExS_while {t : Expr} {body : List Stmt} {pos : Pos} (I : Nat → AS → Prop) {n₀ : Nat} {S₀ : AS} (hle : S.le S₀) (h0 : I n₀ S₀)
    (turn : ∀ n S, I n S → Tst C S t fun b => if b then Ex C S body (fun fl S' => match fl with
        | .next => ∃ S'' m, S'.le S'' ∧ m < n ∧ I m S''
        | .cont => ∃ S'' m, S'.le S'' ∧ m < n ∧ I m S''
        | .brk => Ψ .next S'
        | .ret v => Ψ (.ret v) S') else Ψ .next S) : ExS C S (.While t body [] pos) Ψ := by
  refine ⟨fun ok s₀ X₀ β s Q p F k => ?_⟩
  refine wpAny_While (codeAny_whileLoop (fun n s' => ∃ h' tk S' β', s' = { s with heap := h', toks := tk } ∧ FS C s₀ X₀ β' S' s' ∧ FKeep C β s.heap h' ∧ BEv β s.heap β' ∧ I n S') ?_ n₀ ⟨s.heap, s.toks, S₀, β, rfl, F.weak hle, .of (StIn.refl _), .refl _ _, h0⟩)
  rintro n s' ⟨h₁, t₁, S₁, β₁, rfl, F₁, fk₁, bv₁, hI⟩
  refine wpAny_mono ((turn n S₁ hI).go ok _ _ _ (fun _ _ => False) (p.st F₁.keep) F₁.xinh F₁.relS fun b h₂ t₂ st₂ φ => ?_) (fun _ _ x => x) fun _ _ x => x.elim
  cases b with
  | false =>
    exact wpAny_execs_nil (k .next .next S₁ β₁ h₂ t₂ (F₁.st st₂) (fk₁.trans bv₁ (.of st₂)) bv₁ rfl φ)
  | true =>
    refine wpAny_mono (φ.go ok s₀ X₀ β₁ _ _ p (F₁.st (tk := t₂) st₂) fun afl fl S₃ β₃ h₃ t₃ F₃ fk₃ bv₃ rf ψ => ?_) (fun _ _ x => x) fun _ _ x => x.elim
    have fk' : FKeep C β s.heap h₃ := (fk₁.trans bv₁ (FKeep.of st₂)).trans bv₁ fk₃
    have bv' : BEv β s.heap β₃ := bv₁.trans (BEv.trans (.refl _ _) bv₃ (.of st₂) (F₁.st (tk := t₂) st₂).ffr) fk₁ F₁.ffr
    cases afl with
    | next => obtain rfl : fl = .next := rf; obtain ⟨S'', m, hle, hm, hI'⟩ := ψ; exact ⟨m, hm, h₃, t₃, S'', β₃, rfl, F₃.weak hle, fk', bv', hI'⟩
    | cont => obtain rfl : fl = .cont := rf; obtain ⟨S'', m, hle, hm, hI'⟩ := ψ; exact ⟨m, hm, h₃, t₃, S'', β₃, rfl, F₃.weak hle, fk', bv', hI'⟩
    | brk => obtain rfl : fl = .brk := rf; exact k .next .next S₃ β₃ h₃ t₃ F₃ fk' bv' rfl ψ
    | ret av => obtain ⟨v, rfl, rv⟩ := rf; exact k (.ret av) (.ret v) S₃ β₃ h₃ t₃ F₃ fk' bv' ⟨v, rfl, rv⟩ ψ

/-- a range's ints -/
def rngL (a c : Int) (n : Nat) : List AV := (List.range n).map fun (i : Nat) => AV.int (a + i * c)
/-- what an iteration gives -/
inductive Items : AV → List AV → Prop
  | lst (l : List AV) : Items (.lst l) l
  | tup (l : List AV) : Items (.tup l) l
  | rng (a b c : Int) (n : Nat) (hn : Builtin.Range.rangeSize a b c = n) : Items (.rng a b c) (rngL a c n)

mutual
theorem RelV.more {X : List Addr} {h : Heap} {b : Addr} (hb : h.get? b = none) : (av : AV) → (v : Value) → RelV X h av v → RelV (b :: X) h av v
  | .int _, _, r => r
  | .bool _, _, r => r
  | .none, _, r => r
  | .str _, _, r => r
  | .ty _, _, r => r
  | .bi _, _, r => r
  | .rng _ _ _, _, r => r
  | .tup l, _, ⟨a, vs, e, ht, rr⟩ => ⟨a, vs, e, ht, RelVs.more hb l vs rr⟩
  | .lst l, _, ⟨a, vs, e, hx, ht, rr⟩ => ⟨a, vs, e, fun q => by
      rcases List.mem_cons.mp q with q | q
      · obtain ⟨o, ho, _⟩ := ht; rw [q, hb] at ho; cases ho
      · exact hx q, ht, RelVs.more hb l vs rr⟩
theorem RelVs.more {X : List Addr} {h : Heap} {b : Addr} (hb : h.get? b = none) : (l : List AV) → (vs : List Value) → RelVs X h l vs → RelVs (b :: X) h l vs
  | [], _, r => r
  | a :: l, _, ⟨v, r, e, h1, h2⟩ => ⟨v, r, e, RelV.more hb a v h1, RelVs.more hb l r h2⟩
end

/-- iterators that hand out a tuple of their own -/
def ownIters : List String := ["enumerate", "zip", "dict_itemiterator", "dict_reverseitemiterator", "odict_iterator", "itertools.zip_longest", "itertools.pairwise"]
/-- an iterator over the items xs, made at I -/
structure Itr (C : CX) (X : List Addr) (xs : List AV) (I : Addr) (h₀ : Heap) (fp : List Addr) (P : Nat → Value → Prop) (St : Nat → Heap → Prop) : Prop where
  walk : Walks C.g.prog C.g.w C.A I fp [I] xs.length P St
  start : St 0 h₀
  fps : ∀ b ∈ fp, b = I ∨ (b ∉ X ∧ ∃ o, h₀.get? b = some o ∧ isVal o) ∨ (∃ o, h₀.get? b = some o ∧ isVal o ∧ o.cls ≠ .type "list")
  item : ∀ i v, P i v → ∃ av, xs[i]? = some av ∧ RelV X h₀ av v
  itr : ∀ i h, St i h → ∃ o, h.get? I = some o ∧ ¬ isVal o
  cls : ∀ i h, St i h → ∃ o n, h.get? I = some o ∧ o.cls = .type n ∧ ownIters.contains n = false

theorem iter_go {X : List Addr} {xs : List AV} {av : AV} {v : Value} {s : Shared} {Q : Value → Shared → Prop} {E : Value → Shared → Prop} (ok : C.Ok) (hi : Items av xs) (r : RelV X s.heap av v)
    (k : ∀ fp P St o, Itr C X xs s.heap.objs.size (s.heap.push o) fp P St → o.isFreed = false → Q (.ref s.heap.objs.size) { s with heap := s.heap.push o }) : wpAny (model C.g.prog C.g.w) C.A (pyIter v) Q E s := by
  cases hi with
  | lst =>
    obtain ⟨ax, vs, rfl, hx, hl, hr⟩ := r
    have hne : ax ≠ s.heap.objs.size := by obtain ⟨o, ho, _⟩ := hl; exact Nat.ne_of_lt (Heap.lt_size ho)
    refine wpAny_pyIter_list hl (k [s.heap.objs.size, ax] (fun i v => vs.toArray[i]? = some v) (fun i h => h.IsListIter s.heap.objs.size ax i ∧ h.IsList ax vs.toArray) _ ⟨?_, ?_, ?_, ?_, ?_, ?_⟩ rfl)
    · have W := Walks.list (prog := C.g.prog) (w := C.g.w) ok.room.hh s.heap.objs.size ax hne vs.toArray
      rw [show vs.toArray.size = xs.length from hr.length] at W
      exact W
    · exact ⟨⟨_, Heap.get?_push_size _ rfl, rfl, rfl⟩, hl.push _⟩
    · intro b hb
      rcases List.mem_cons.mp hb with e | hb
      · exact .inl e
      · obtain rfl := List.mem_singleton.mp hb
        obtain ⟨o, ho, hc, n, hd⟩ := hl
        exact .inr (.inl ⟨hx, o, Heap.get?_push_of_some _ ho, .inl ⟨_, n, hd⟩⟩)
    · intro i v hP
      have hP' : vs[i]? = some v := by simpa using hP
      have hlt : i < xs.length := by rw [← hr.length]; exact (List.getElem?_eq_some_iff.mp hP').1
      obtain ⟨v', hv', rv⟩ := hr.get i xs[i] (by simp)
      rw [hP'] at hv'; cases hv'
      exact ⟨xs[i], by simp, rv.st (StIn.push _ _)⟩
    · rintro i h ⟨⟨o, ho, hc, hd⟩, _⟩
      refine ⟨o, ho, ?_⟩
      rintro (⟨xs, n, q⟩ | ⟨q, _⟩)
      · rw [hd] at q; cases q
      · rw [hc] at q; exact absurd q (by decide)
    · rintro i h ⟨⟨o, ho, hc, hd⟩, _⟩
      exact ⟨o, _, ho, hc, by decide⟩
  | tup =>
    obtain ⟨ax, vs, rfl, hl, hr⟩ := r
    have hne : ax ≠ s.heap.objs.size := by obtain ⟨o, ho, _⟩ := hl; exact Nat.ne_of_lt (Heap.lt_size ho)
    refine wpAny_pyIter_tuple hl (k [s.heap.objs.size, ax] (fun i v => vs.toArray[i]? = some v) (fun i h => h.IsTupleIter s.heap.objs.size ax i ∧ h.IsTuple ax vs.toArray) _ ⟨?_, ?_, ?_, ?_, ?_, ?_⟩ rfl)
    · have W := Walks.tuple (prog := C.g.prog) (w := C.g.w) ok.room.hh s.heap.objs.size ax hne vs.toArray
      rw [show vs.toArray.size = xs.length from hr.length] at W
      exact W
    · exact ⟨⟨_, Heap.get?_push_size _ rfl, rfl, rfl⟩, hl.push _⟩
    · intro b hb
      rcases List.mem_cons.mp hb with e | hb
      · exact .inl e
      · obtain rfl := List.mem_singleton.mp hb
        obtain ⟨o, ho, hc, n, hd⟩ := hl
        exact .inr (.inr ⟨o, Heap.get?_push_of_some _ ho, .inl ⟨_, n, hd⟩, by rw [hc]; decide⟩)
    · intro i v hP
      have hP' : vs[i]? = some v := by simpa using hP
      have hlt : i < xs.length := by rw [← hr.length]; exact (List.getElem?_eq_some_iff.mp hP').1
      obtain ⟨v', hv', rv⟩ := hr.get i xs[i] (by simp)
      rw [hP'] at hv'; cases hv'
      exact ⟨xs[i], by simp, rv.st (StIn.push _ _)⟩
    · rintro i h ⟨⟨o, ho, hc, hd⟩, _⟩
      refine ⟨o, ho, ?_⟩
      rintro (⟨xs, n, q⟩ | ⟨q, _⟩)
      · rw [hd] at q; cases q
      · rw [hc] at q; exact absurd q (by decide)
    · rintro i h ⟨⟨o, ho, hc, hd⟩, _⟩
      exact ⟨o, _, ho, hc, by decide⟩
  | rng a b c n hn =>
    obtain ⟨r, t, u, w, rfl, hr⟩ := r
    have hlen : (rngL a c n).length = n := by simp [rngL]
    have hit : ∀ (i : Nat) v (h : Heap), (∃ t, v = Value.int (a + i * c) t) → i < n → ∃ av, (rngL a c n)[i]? = some av ∧ RelV X h av v := by
      rintro i v h ⟨t, rfl⟩ hlt
      exact ⟨.int (a + i * c), by simp [rngL, hlt], ⟨t, rfl⟩⟩
    cases hs : Builtin.Range.small a b c with
    | true =>
      refine wpAny_pyIter_range hr hs (k [s.heap.objs.size] (fun i v => i < n ∧ ∃ t, v = .int (a + i * c) t) (fun i h => IsRangeIter h s.heap.objs.size (a + (i : Nat) * c) ((n : Int) - (i : Nat)) c) _ ⟨?_, ?_, ?_, ?_, ?_, ?_⟩ rfl)
      · rw [hlen]
        have W := Walks.range (prog := C.g.prog) (w := C.g.w) ok.room.hh s.heap.objs.size a c n
        exact ⟨W.sub, W.frame, fun i s Q E hi st hQ => W.item i s Q E hi st fun v h' tk hP => hQ v h' tk ⟨hi, hP⟩, W.done, W.self⟩
      · show IsRangeIter _ _ _ _ _
        rw [show a + ((0 : Nat) : Int) * c = a by simp, show (n : Int) - ((0 : Nat) : Int) = Builtin.Range.rangeSize a b c by rw [hn]; simp]
        exact Heap.get?_push_size _ rfl
      · intro b hb; exact .inl (List.mem_singleton.mp hb)
      · exact fun i v hP => hit i v _ hP.2 hP.1
      · intro i h hst
        refine ⟨_, hst, ?_⟩
        rintro (⟨xs, n, q⟩ | ⟨q, _⟩)
        · cases q
        · exact absurd q (show Value.type "range_iterator" ≠ Value.type "range" by decide)
      · intro i h hst
        exact ⟨_, "range_iterator", hst, rfl, by decide⟩
    | false =>
      refine wpAny_pyIter_longrange hr hs (k [s.heap.objs.size] (fun i v => i < n ∧ ∃ t, v = .int (a + i * c) t) (fun i h => IsLongIter h s.heap.objs.size (a + (i : Nat) * c) ((n : Int) - (i : Nat)) c) _ ⟨?_, ?_, ?_, ?_, ?_, ?_⟩ rfl)
      · rw [hlen]
        have W := Walks.longrange (prog := C.g.prog) (w := C.g.w) ok.room.hh s.heap.objs.size a c n
        exact ⟨W.sub, W.frame, fun i s Q E hi st hQ => W.item i s Q E hi st fun v h' tk hP => hQ v h' tk ⟨hi, hP⟩, W.done, W.self⟩
      · show IsLongIter _ _ _ _ _
        rw [show a + ((0 : Nat) : Int) * c = a by simp, show (n : Int) - ((0 : Nat) : Int) = Builtin.Range.rangeSize a b c by rw [hn]; simp]
        exact Heap.get?_push_size _ rfl
      · intro b hb; exact .inl (List.mem_singleton.mp hb)
      · exact fun i v hP => hit i v _ hP.2 hP.1
      · intro i h hst
        refine ⟨_, hst, ?_⟩
        rintro (⟨xs, n, q⟩ | ⟨q, _⟩)
        · cases q
        · exact absurd q (show Value.type "longrange_iterator" ≠ Value.type "range" by decide)
      · intro i h hst
        exact ⟨_, "longrange_iterator", hst, rfl, by decide⟩

/-- for, over a name, by an invariant on the turn's number -/
theorem ExS_for {x : Str} {px pos : Pos} {iter : Expr} {body : List Stmt}
    (h : Ev C S iter fun av => ∃ xs, Items av xs ∧ ∃ I : Nat → AS → Prop, (∃ S₀, S.le S₀ ∧ I 0 S₀) ∧
      (∀ i S av, xs[i]? = some av → I i S → Stb C S x ∧ Ex C (S.set x av) body fun fl S' => match fl with
        | .next => ∃ S'', S'.le S'' ∧ I (i + 1) S''
        | .cont => ∃ S'', S'.le S'' ∧ I (i + 1) S''
        | .brk => Ψ .next S'
        | .ret v => Ψ (.ret v) S') ∧ (∀ S, I xs.length S → Ψ .next S))
    (hs : ∀ x, foldedSetIterable iter C.env x = pure x := by intro _; rfl) : ExS C S (.For (.Name x px) iter body [] pos) Ψ := by
  refine ⟨fun ok s₀ X₀ β s Q p F k => ?_⟩
  refine wpAny_For (h.go ok _ s _ _ (p.st F.keep) F.xinh F.relS fun av v h₁ t₁ st₁ rv hyp => ?_) hs
  obtain ⟨xs, hit, I, ⟨S₀, hle0, hI0⟩, hturn, hend⟩ := hyp
  refine iter_go ok hit rv fun fp P St o itr hfree => ?_
  have F₁ : FS C s₀ X₀ β S { s with heap := h₁.push o, toks := t₁ } := F.st (st₁.trans (StIn.push _ _))
  generalize hIaddr : h₁.objs.size = J at itr
  -- what is kept: relative to the heap with the iterator
  have hJ : (h₁.push o).get? J = some o := by rw [← hIaddr]; exact Heap.get?_push_size _ hfree
  have hJnone : h₁.get? J = none := by
    cases e : h₁.get? J with
    | none => rfl
    | some o' => have := Heap.lt_size e; rw [hIaddr] at this; exact absurd this (Nat.lt_irrefl _)
  have hJs : s.heap.get? J = none := by
    cases e : s.heap.get? J with
    | none => rfl
    | some o' => rw [st₁ _ _ e] at hJnone; cases hJnone
  refine codeAny_forLoop (fun n s' => ∃ h' tk S' β' i, s' = { s with heap := h', toks := tk } ∧ FS C s₀ X₀ β' S' s' ∧ FKeep C β s.heap h' ∧ BEv β s.heap β' ∧ (∀ b, β' = some b → β = some b ∨ (h₁.push o).get? b = none) ∧
      VKeep (β.toList ++ X₀) (h₁.push o) h' ∧ (∀ a oa, a ≠ C.env.locals → (∀ x, C.env.cells.lookup x ≠ some a) → β ≠ some a → a ≠ J → (h₁.push o).get? a = some oa → h'.get? a = some oa) ∧ St i h' ∧ i ≤ xs.length ∧ n = xs.length + 1 - i ∧ I i S') ?_ (xs.length + 1)
    ⟨h₁.push o, t₁, S₀, β, 0, rfl, F₁.weak hle0, .of (st₁.trans (StIn.push _ _)), .refl _ _, (fun b e => .inl e), .refl _ _, (fun _ _ _ _ _ _ e => e), itr.start, Nat.zero_le _, rfl, hI0⟩
  rintro n s' ⟨h', tk, S', β', i, rfl, F', fk, bv, bo, vk, lk, hst, hle, rfl, hI⟩
  -- the iterator is none of the frame's
  have hJL : J ≠ C.env.locals := by
    rintro rfl
    obtain ⟨m, hn⟩ := F.ffr.loc
    obtain ⟨o', _, _, ho', _⟩ := hn
    rw [ho'] at hJs; cases hJs
  have hJc : ∀ y, C.env.cells.lookup y ≠ some J := by
    intro y e
    obtain ⟨w, o', ho', _⟩ := F.ffr.cel y J e
    rw [ho'] at hJs; cases hJs
  have hJb : β' ≠ some J := by
    intro e
    rcases bo J e with e | e
    · obtain ⟨vs, n, ho'⟩ := F.ffr.own J e
      rw [ho'] at hJs; cases hJs
    · rw [hJ] at e; cases e
  have kp : ∀ {h'' : Heap}, (∀ b o, b ∉ [J] → h'.get? b = some o → h''.get? b = some o) → ∀ tk, FS C s₀ X₀ β' S' { s with heap := h'', toks := tk } ∧ FKeep C β s.heap h'' ∧ VKeep (β.toList ++ X₀) (h₁.push o) h'' := by
    intro h'' hk tk
    have hkJ : ∀ b o, b ≠ J → h'.get? b = some o → h''.get? b = some o := fun b o hb e => hk b o (by simpa using hb) e
    obtain ⟨oi, hoi, hnv⟩ := itr.itr i h' hst
    have vk2 : ∀ X, VKeep X h' h'' := fun X => ⟨fun a o _ hv e => hkJ a o (by rintro rfl; rw [e] at hoi; cases hoi; exact hnv hv) e, fun a o hv _ e => hkJ a o (by rintro rfl; rw [e] at hoi; cases hoi; exact hnv hv) e⟩
    refine ⟨?_, ?_, vk.trans (vk2 _)⟩
    · obtain ⟨m, cm, c⟩ := F'.call
      have hrd : ∀ y w, Rd C.env h' y w → Rd C.env h'' y w := by
        rintro y w (⟨hk', m', hn, hw⟩ | ⟨hk', c', hc', hw⟩)
        · exact .inl ⟨hk', m', hn.at' fun o e => hkJ _ o (Ne.symm hJL) e, hw⟩
        · obtain ⟨o', ho', hd'⟩ := hw
          exact .inr ⟨hk', c', hc', o', hkJ _ _ (fun q => hJc y (q ▸ hc')) ho', hd'⟩
      refine ⟨⟨m, cm, ⟨⟨?_, c.toInCall.ns.at' fun o e => hkJ _ o (Ne.symm hJL) e, fun b o e => ?_, c.toInCall.fresh⟩, fun y a e => ?_, c.apart, c.above⟩⟩, ?_, ?_, F'.xin⟩
      · obtain ⟨h₁, tk₁, e⟩ := F.same
        exact ⟨h'', tk, by rw [e]⟩
      · refine hkJ b o ?_ (c.toInCall.keep b o e)
        rintro rfl
        rw [F.keep _ _ e] at hJs; cases hJs
      · obtain ⟨o', ho', hd'⟩ := c.cell y a e
        exact ⟨o', hkJ _ _ (fun q => hJc y (q ▸ e)) ho', hd'⟩
      · exact fun y aw e => let ⟨w, h1, h2⟩ := F'.vars y aw e; ⟨w, hrd y w h1, h2.keep (vk2 _)⟩
      · have h := F'.own
        show OwnOk C s₀ X₀ h'' S'.own β'
        cases ho : S'.own with
        | none => rw [ho] at h; cases β' with | none => trivial | some _ => exact h
        | some q =>
          rw [ho] at h
          cases β' with
          | none => exact h
          | some b =>
            obtain ⟨⟨vs, ow⟩, h1⟩ := h
            exact ⟨⟨vs, hrd _ _ ow.rd, ow.inX, ow.lst.at fun o e => hkJ b o (by rintro rfl; exact hJb rfl) e, ow.rel.keep (vk2 _)⟩, h1⟩
    · intro a oa h1 h2 h3 e
      refine hkJ a oa ?_ (fk a oa h1 h2 h3 e)
      rintro rfl; rw [hJs] at e; cases e
  by_cases hlt : i < xs.length
  · refine itr.walk.item i _ _ _ hlt hst fun w h₂ t₂ hP hst₂ hk₂ => ?_
    obtain ⟨F₂, fk₂, vk₂⟩ := kp hk₂ t₂
    obtain ⟨aw, haw, raw⟩ := itr.item i w hP
    obtain ⟨hstb, hbody⟩ := hturn i S' aw haw hI
    have rw₂ : RelV (β'.toList ++ X₀) h₂ aw w := by
      cases hb : β' with
      | none => exact (raw.keep vk₂).less fun q hq => List.mem_append_right _ (by simpa using hq)
      | some b =>
        rcases bo b hb with e | e
        · rw [← e]; exact raw.keep vk₂
        · have r1 : RelV (b :: (β.toList ++ X₀)) (h₁.push o) aw w := RelV.more e aw w raw
          have r2 := r1.keep (vk₂.sub fun q hq => List.mem_cons_of_mem _ hq)
          exact r2.less fun q hq => by
            rcases List.mem_append.mp hq with hq | hq
            · obtain rfl : q = b := by simpa using hq
              exact List.mem_cons_self
            · exact List.mem_cons_of_mem _ (List.mem_append_right _ hq)
    refine wpAny_assign_Name (store_rel ok F₂ rw₂ hstb.1 hstb.2 fun h₃ t₃ F₃ fk₃ => ?_)
    refine wpAny_mono (hbody.go ok s₀ X₀ β' _ _ p F₃ fun afl fl S₄ β₄ h₄ t₄ F₄ fk₄ bv₄ rf ψ => ?_) (fun _ _ q => q) fun _ _ q => q.elim
    have fk23 : FKeep C β' h₂ h₄ := fk₃.trans (.refl _ _) fk₄
    have fk' : FKeep C β s.heap h₄ := fk₂.trans bv fk23
    have bv24 : BEv β' h₂ β₄ := BEv.trans (.refl _ _) bv₄ fk₃ F₃.ffr
    have bv' : BEv β s.heap β₄ := bv.trans bv24 fk₂ F₂.ffr
    have hst₄ : St (i + 1) h₄ := itr.walk.frame _ _ _ hst₂ fun b hb ob e => by
      rcases itr.fps b hb with rfl | ⟨hx, oo, ho, hv⟩ | ⟨oo, ho, hv, hcl⟩
      · exact fk23 _ _ hJL hJc hJb e
      · have e2 := vk₂.off b oo hx hv ho
        rw [e] at e2; cases e2
        refine (fk23.vkeep (X₀ := X₀) F₂.ffr).off b _ (fun q => ?_) hv e
        rcases List.mem_append.mp q with q | q
        · cases hbb : β' with
          | none => rw [hbb] at q; cases q
          | some b' =>
            rw [hbb] at q
            obtain rfl : b = b' := by simpa using q
            rcases bo _ hbb with h1 | h1
            · exact hx (by rw [h1]; simp)
            · rw [ho] at h1; cases h1
        · exact hx (List.mem_append_right _ q)
      · have e2 := vk₂.imm b oo hv hcl ho
        rw [e] at e2; cases e2
        exact (fk23.vkeep (X₀ := X₀) F₂.ffr).imm b _ hv hcl e
    have vk' : VKeep (β.toList ++ X₀) (h₁.push o) h₄ := by
      have v4 := fk23.vkeep (X₀ := X₀) F₂.ffr
      refine ⟨fun a oa ha hv e => v4.off a oa (fun q => ?_) hv (vk₂.off a oa ha hv e), fun a oa hv hc e => v4.imm a oa hv hc (vk₂.imm a oa hv hc e)⟩
      rcases List.mem_append.mp q with q | q
      · cases hbb : β' with
        | none => rw [hbb] at q; cases q
        | some b' =>
          rw [hbb] at q
          obtain rfl : a = b' := by simpa using q
          rcases bo _ hbb with h1 | h1
          · exact ha (by rw [h1]; simp)
          · rw [e] at h1; cases h1
      · exact ha (List.mem_append_right _ q)
    have bo' : ∀ b, β₄ = some b → β = some b ∨ (h₁.push o).get? b = none := by
      intro b hb
      by_cases h3 : β = some b
      · exact .inl h3
      rcases bv24 b hb with e | e
      · exact bo b e
      · cases hq : (h₁.push o).get? b with
        | none => exact .inr rfl
        | some oq =>
          exfalso
          by_cases hbJ : b = J
          · subst hbJ
            obtain ⟨oi, hoi, _⟩ := itr.itr (i + 1) h₂ hst₂
            rw [hoi] at e; cases e
          · by_cases h1 : b = C.env.locals
            · obtain ⟨m, o', _, _, ho', _⟩ := F₂.ffr.loc
              rw [h1, ho'] at e; cases e
            · by_cases h2 : ∃ y, C.env.cells.lookup y = some b
              · obtain ⟨y, h2⟩ := h2
                obtain ⟨v, o', ho', _⟩ := F₂.ffr.cel y b h2
                rw [ho'] at e; cases e
              · have hkJ := hk₂ b oq (by simpa using hbJ) (lk b oq h1 (fun y hy => h2 ⟨y, hy⟩) h3 hbJ hq)
                rw [hkJ] at e; cases e
    have lk' : ∀ a oa, a ≠ C.env.locals → (∀ x, C.env.cells.lookup x ≠ some a) → β ≠ some a → a ≠ J → (h₁.push o).get? a = some oa → h₄.get? a = some oa := by
      intro a oa h1 h2 h3 h4 e
      refine fk23 a oa h1 h2 (fun hb => ?_) (hk₂ a oa (by simpa using h4) (lk a oa h1 h2 h3 h4 e))
      rcases bo a hb with q | q
      · exact h3 q
      · rw [e] at q; cases q
    have hn' : xs.length + 1 - (i + 1) < xs.length + 1 - i := by omega
    cases afl with
    | next => obtain rfl : fl = .next := rf; obtain ⟨S'', hle', hI'⟩ := ψ; exact ⟨_, hn', h₄, t₄, S'', β₄, i + 1, rfl, F₄.weak hle', fk', bv', bo', vk', lk', hst₄, hlt, rfl, hI'⟩
    | cont => obtain rfl : fl = .cont := rf; obtain ⟨S'', hle', hI'⟩ := ψ; exact ⟨_, hn', h₄, t₄, S'', β₄, i + 1, rfl, F₄.weak hle', fk', bv', bo', vk', lk', hst₄, hlt, rfl, hI'⟩
    | brk => obtain rfl : fl = .brk := rf; exact k .next .next S₄ β₄ h₄ t₄ F₄ fk' bv' rfl ψ
    | ret av => obtain ⟨v, rfl, rv⟩ := rf; exact k (.ret av) (.ret v) S₄ β₄ h₄ t₄ F₄ fk' bv' ⟨v, rfl, rv⟩ ψ
  · have hin : i = xs.length := by omega
    subst hin
    refine itr.walk.done _ _ _ hst fun h₂ t₂ hk₂ => wpAny_execs_nil ?_
    obtain ⟨F₂, fk₂, _⟩ := kp hk₂ t₂
    exact k .next .next S' β' h₂ t₂ F₂ fk₂ bv rfl (hend S' hI)
variable {C : CX} {S : AS} {Ψ : AFl → AS → Prop}

def AS.sets (S : AS) : List Str → List AV → AS
  | x :: xs, a :: as => (S.set x a).sets xs as
  | _, _ => S

/-- names stored one after the other -/
theorem stores_rel {s₀ : Shared} {X₀ : List Addr} {β : Option Addr} (ok : C.Ok) {M : Model} {A : Around} {E : Value → Shared → Prop} :
    ∀ (fs : List (Str × (Value → Sem Unit))) (as : List AV) (vs : List Value) (S : AS) (s : Shared) (Q : Unit → Shared → Prop), FS C s₀ X₀ β S s → RelVs (β.toList ++ X₀) s.heap as vs → fs.length = as.length →
      (∀ x ∈ fs, ∀ v Q s, wpAny M A (storeName C.env x.1 v) Q E s → wpAny M A (x.2 v) Q E s) →
      (∀ x ∈ fs, (C.env.kindOf x.1 = some .local ∨ (C.env.kindOf x.1 = some .cell ∧ (C.env.cells.lookup x.1).isSome = true)) ∧ S.off x.1) →
      (∀ h' tk, FS C s₀ X₀ β (S.sets (fs.map (·.1)) as) { s with heap := h', toks := tk } → FKeep C β s.heap h' → Q () { s with heap := h', toks := tk }) → wpAny M A (assignInOrder (fs.map (·.2)) vs) Q E s
  | [], _, vs, S, s, Q, F, r, hl, hf, hx, k => by
    show wpAny M A (assignInOrder [] vs) Q E s
    unfold assignInOrder
    exact wpAny_pure (k s.heap s.toks F (.of (StIn.refl _)))
  | x :: xs, [], vs, S, s, Q, F, r, hl, hf, hx, k => by simp at hl
  | (x, f) :: xs, a :: as, vs, S, s, Q, F, r, hl, hf, hx, k => by
    obtain ⟨v, vs', rfl, rv, rr⟩ := r
    show wpAny M A (do holding vs' (f v); assignInOrder (xs.map (·.2)) vs') Q E s
    refine wpAny_bind (wpAny_holding (hf (x, f) (List.mem_cons_self) v _ s ?_))
    refine store_rel ok F rv (hx (x, f) List.mem_cons_self).1 (hx (x, f) List.mem_cons_self).2 fun h' tk F' fk => ?_
    refine stores_rel ok xs as vs' (S.set x a) _ Q F' (rr.keep (fk.vkeep F.ffr)) (by simpa using hl) (fun y hy => hf y (List.mem_cons_of_mem _ hy)) (fun y hy => hx y (List.mem_cons_of_mem _ hy)) fun h'' tk' F'' fk' => ?_
    exact k h'' tk' F'' (fk.trans (.refl _ _) fk')

theorem RelVs.snoc {X : List Addr} {h : Heap} : ∀ {l : List AV} {vs : List Value} {a : AV} {v : Value}, RelVs X h l vs → RelV X h a v → RelVs X h (l ++ [a]) (vs ++ [v])
  | _, _, _, _, r, ra => r.append ⟨_, _, rfl, ra, rfl⟩
theorem RelVs.rev {X : List Addr} {h : Heap} : ∀ {l : List AV} {vs : List Value}, RelVs X h l vs → RelVs X h l.reverse vs.reverse
  | [], _, r => by rw [show _ = [] from r]; rfl
  | a :: l, _, ⟨v, r, e, h1, h2⟩ => by rw [e, List.reverse_cons, List.reverse_cons]; exact (RelVs.rev h2).snoc h1

theorem ext_st {h h' : Heap} (he : Heap.ExtBut h.objs.size h h') : StIn h h' := fun b o e => he b o (Nat.ne_of_lt (Heap.lt_size e)) e

/-- a tuple handed to targets that are names -/
theorem unpack_go {s₀ s : Shared} {X₀ : List Addr} {β : Option Addr} {a : Addr} {l : List AV} {vs : List Value} {nps : List (Str × Pos)} {elts : List Expr} {k₀ : Nat} {tp : Pos} {Q : Unit → Shared → Prop} {E : Value → Shared → Prop} (ok : C.Ok) (F : FS C s₀ X₀ β S s)
    (ht : s.heap.IsTuple a vs.toArray) (hr : RelVs (β.toList ++ X₀) s.heap l vs) (hl : l.length = nps.length) (hx : ∀ x ∈ nps, Stb C S x.1) (he : elts = nps.map fun p => Expr.Name p.1 p.2)
    (k : ∀ h' tk, FS C s₀ X₀ β (S.sets (nps.map (·.1)) l) { s with heap := h', toks := tk } → FKeep C β s.heap h' → Q () { s with heap := h', toks := tk }) :
    wpAny (model C.g.prog C.g.w) C.A (assign (.Tuple elts k₀ tp) C.env (.ref a)) Q E s := by
  have hae : ∀ nps : List (Str × Pos), assignEach (nps.map fun p => Expr.Name p.1 p.2) C.env = nps.map fun p => (false, assign (.Name p.1 p.2) C.env) := by
    intro nps
    induction nps with
    | nil => rfl
    | cons p r ih => rw [List.map_cons, List.map_cons, ← ih]; rfl
  subst he
  refine wpAny_assign_Tuple ok.room.hh ht (by rw [hae, List.length_map, List.size_toArray, hr.length, hl]) (by
    rw [hae]
    induction nps with
    | nil => rfl
    | cons p r _ => simp) fun h' hb => ?_
  have st := ext_st hb
  have e1 : (nps.map fun p => (p.1, assign (.Name p.1 p.2) C.env)).map (·.1) = nps.map (·.1) := by rw [List.map_map]; rfl
  have e2 : (nps.map fun p => (p.1, assign (.Name p.1 p.2) C.env)).map (·.2) = (nps.map fun p => (false, assign (.Name p.1 p.2) C.env)).map (·.2) := by rw [List.map_map, List.map_map]; rfl
  have := stores_rel (M := model C.g.prog C.g.w) (A := C.A) (E := E) ok (nps.map fun p => (p.1, assign (.Name p.1 p.2) C.env)) l vs S { s with heap := h' } Q (F.st (tk := s.toks) st) (hr.st st) (by rw [List.length_map, hl])
    (fun x hx v Q s hq => by obtain ⟨p, _, rfl⟩ := List.mem_map.mp hx; exact wpAny_assign_Name hq)
    (fun x hx' => by obtain ⟨p, hp, rfl⟩ := List.mem_map.mp hx'; exact hx p hp)
    (fun h'' tk F'' fk => k h'' tk (by rw [e1] at F''; exact F'') (FKeep.trans (.of st) (.refl _ _) fk))
  rw [hae, ← e2]
  exact this

theorem ExS_unpack2 {x y : Str} {px py tp pos : Pos} {k₀ : Nat} {e : Expr} (h : Ev C S e fun av => ∃ a b, av = .tup [a, b] ∧ Ψ .next ((S.set x a).set y b)) (hx : Stb C S x) (hy : Stb C S y)
    (hs : swapsWithSole [.Tuple [.Name x px, .Name y py] k₀ tp] e pos.line C.env = pure false := by rfl) (hw : swappedStores [.Tuple [.Name x px, .Name y py] k₀ tp] e C.env = pure none := by rfl) : ExS C S (.Assign [.Tuple [.Name x px, .Name y py] k₀ tp] e pos) Ψ := by
  refine ⟨fun ok s₀ X₀ β s Q p F k => ?_⟩
  refine PyProof.Rows.Assign_Tuple (h.go ok _ s _ _ (p.st F.keep) F.xinh F.relS fun av v h₁ t₁ st₁ rv hyp => ?_) hs hw
  obtain ⟨a, b, rfl, ψ⟩ := hyp
  obtain ⟨ad, vs, rfl, ht, hr⟩ := rv
  refine unpack_go (nps := [(x, px), (y, py)]) ok (F.st (tk := t₁) st₁) ht hr rfl (by intro z hz; simp at hz; rcases hz with rfl | rfl <;> assumption) rfl fun h' tk F' fk => ?_
  exact k .next .next _ β h' tk F' (FKeep.trans (.of st₁) (.refl _ _) fk) (.refl _ _) rfl ψ

theorem ExS_swap2 {x y : Str} {px py tp pos : Pos} {k₀ : Nat} {e : Expr} (h : Ev C S e fun av => ∃ a b, av = .tup [a, b] ∧ Ψ .next ((S.set y b).set x a)) (hx : Stb C S x) (hy : Stb C S y)
    (hs : swapsWithSole [.Tuple [.Name x px, .Name y py] k₀ tp] e pos.line C.env = pure false := by rfl) (hw : swappedStores [.Tuple [.Name x px, .Name y py] k₀ tp] e C.env = pure (some [x, y]) := by rfl) : ExS C S (.Assign [.Tuple [.Name x px, .Name y py] k₀ tp] e pos) Ψ := by
  refine ⟨fun ok s₀ X₀ β s Q p F k => ?_⟩
  refine PyProof.Rows.Assign_Tuple_swapped (names := [x, y]) (h.go ok _ s _ _ (p.st F.keep) F.xinh F.relS fun av v h₁ t₁ st₁ rv hyp => ?_) hs hw
  obtain ⟨a, b, rfl, ψ⟩ := hyp
  obtain ⟨ad, vs, rfl, ht, hr⟩ := rv
  have F₁ := F.st (tk := t₁) st₁
  have e2 : [x, y].length = vs.toArray.size := by rw [List.size_toArray, hr.length]; rfl
  rw [e2]
  refine wpAny_unpackItems_tuple (s := { s with heap := h₁, toks := t₁ }) ok.room.hh ht fun h' he => ?_
  have st₂ : StIn h₁ h' := ext_st he
  refine stores_rel ok [(y, fun v => bindName C.env y v), (x, fun v => bindName C.env x v)] [b, a] vs.reverse S _ _ (F₁.st (tk := t₁) st₂) (hr.st st₂).rev rfl (fun z hz v Q s hq => ?_) (fun z hz => ?_) fun h'' tk F'' fk => ?_
  · simp at hz; rcases hz with rfl | rfl <;> exact wpAny_bindName hq
  · simp at hz; rcases hz with rfl | rfl <;> assumption
  · exact k .next .next _ β h'' tk F'' (FKeep.trans (.of (st₁.trans st₂)) (.refl _ _) fk) (.refl _ _) rfl ψ

-- defs
theorem bindL_spec {kindOf : Str → Option NameKind} : ∀ (binds : List (Str × Value)) (m : Str → Option Value) (x : Str) (v : Value), (binds.map (·.1)).Nodup → binds.lookup x = some v → kindOf x = some .local → bindL kindOf binds m x = some v
  | (n, w) :: r, m, x, v, hnd, hl, hk => by
    rw [List.lookup_cons] at hl
    obtain ⟨hn, hr⟩ := List.nodup_cons.mp hnd
    unfold bindL
    cases hb : x == n with
    | true =>
      rw [hb] at hl; cases hl
      obtain rfl := beq_iff_eq.mp hb
      rw [if_pos hk]
      have skip : ∀ (r : List (Str × Value)) (m : Str → Option Value), x ∉ r.map (·.1) → bindL kindOf r m x = m x := by
        intro r
        induction r with
        | nil => intro m _; rfl
        | cons p r ih =>
          intro m hx
          obtain ⟨q, u⟩ := p
          simp only [List.map_cons, List.mem_cons, not_or] at hx
          unfold bindL
          rw [ih _ hx.2]
          split
          · simp [hx.1]
          · rfl
      rw [skip r _ hn]; simp
    | false => rw [hb] at hl; exact bindL_spec r _ x v hr hl hk
theorem bindC_spec {kindOf : Str → Option NameKind} : ∀ (binds : List (Str × Value)) (m : Str → Option Value) (x : Str) (v : Value), (binds.map (·.1)).Nodup → binds.lookup x = some v → kindOf x = some .cell → bindC kindOf binds m x = some v
  | (n, w) :: r, m, x, v, hnd, hl, hk => by
    rw [List.lookup_cons] at hl
    obtain ⟨hn, hr⟩ := List.nodup_cons.mp hnd
    unfold bindC
    cases hb : x == n with
    | true =>
      rw [hb] at hl; cases hl
      obtain rfl := beq_iff_eq.mp hb
      rw [if_neg (by rw [hk]; decide)]
      have skip : ∀ (r : List (Str × Value)) (m : Str → Option Value), x ∉ r.map (·.1) → bindC kindOf r m x = m x := by
        intro r
        induction r with
        | nil => intro m _; rfl
        | cons p r ih =>
          intro m hx
          obtain ⟨q, u⟩ := p
          simp only [List.map_cons, List.mem_cons, not_or] at hx
          unfold bindC
          rw [ih _ hx.2]
          split
          · rfl
          · simp [hx.1]
      rw [skip r _ hn]; simp
    | false => rw [hb] at hl; exact bindC_spec r _ x v hr hl hk

theorem lookup_zip {X : List Addr} {h : Heap} : ∀ {ns : List Str} {as : List AV} {vs : List Value} {x : Str} {a : AV}, RelVs X h as vs → (ns.zip as).lookup x = some a → ∃ v, (ns.zip vs).lookup x = some v ∧ RelV X h a v
  | [], _, _, _, _, _, e => by simp at e
  | n :: ns, [], _, _, _, _, e => by simp at e
  | n :: ns, b :: as, _, x, a, ⟨v, vs, rfl, rv, rr⟩, e => by
    rw [List.zip_cons_cons, List.lookup_cons] at e
    rw [List.zip_cons_cons, List.lookup_cons]
    cases hb : x == n with
    | true => rw [hb] at e; cases e; exact ⟨v, rfl, rv⟩
    | false => rw [hb] at e; exact lookup_zip rr e

/-- where the parameters lie -/
def parsOk (ns : List Str) (scope : Scope) : Bool := ns.all fun x => match scope.names.lookup x with
  | some .local => true
  | some .cell => ((cellsFrom 0 scope.names []).lookup x).isSome
  | _ => false

theorem cells_some {x : Str} : ∀ (names : List (Str × NameKind)) (n m : Nat) (acc acc' : List (Str × Addr)), ((acc.lookup x).isSome = (acc'.lookup x).isSome) → ((cellsFrom n names acc).lookup x).isSome = ((cellsFrom m names acc').lookup x).isSome
  | [], _, _, _, _, e => e
  | (y, k) :: r, n, m, acc, acc', e => by
    unfold cellsFrom
    split
    · refine cells_some r _ _ _ _ ?_
      rw [List.lookup_cons, List.lookup_cons]
      cases x == y with
      | true => rfl
      | false => exact e
    · exact cells_some r _ _ _ _ e

theorem parsOk_spec {ns : List Str} {scope : Scope} (h : parsOk ns scope = true) (n : Nat) {x : Str} (hx : x ∈ ns) : scope.names.lookup x = some .local ∨ (scope.names.lookup x = some .cell ∧ ((cellsFrom n scope.names []).lookup x).isSome = true) := by
  have := List.all_eq_true.mp h x hx
  cases hk : scope.names.lookup x with
  | none => rw [hk] at this; cases this
  | some k =>
    rw [hk] at this
    cases k with
    | «local» => exact .inl rfl
    | cell => exact .inr ⟨rfl, by rw [cells_some scope.names n 0 [] [] rfl]; exact this⟩
    | _ => cases this

/-- what a call of the def gives, by its body -/
theorem CallsV_of {g : GX} {n : Nat} {a : Addr} {ns : List Str} {body : List Stmt} {scope : Scope} {args : List AV} {Φ : AV → Prop}
    (hfd : ∀ h, PG g h → ∃ o d, h.get? a = some o ∧ o.data = .func d ∧ h.CodeRec d.code d.qualname ∧ d.body = .stmts body ∧ d.scope = scope ∧ d.closure = [] ∧ d.globals = mainGlobals ∧ d.builtins = builtinsNs ∧
      ∀ vs : List Value, vs.length = args.length → bindArgs d ⟨vs, []⟩ = pure (ns.zip vs))
    (hlen : ns.length = args.length) (hp : parsOk ns scope = true) (hnd : ns.Nodup) (hk : scope.kind = .function) (hgen : scope.isGenerator = false) (hco : scope.isCoroutine = false)
    (hbody : ∀ (A : Around) (L : Addr) (qual : Str) (code : Value), Ex ⟨g, A, newEnv scope L mainGlobals (cellsFrom (L + 1) scope.names []) qual (some a) code none builtinsNs, n⟩ ⟨ns.zip args, none⟩ body fun fl _ => match fl with
      | .ret v => Φ v
      | .next => Φ .none
      | _ => False) : CallsV g (n + 1) (.ref a) args Φ := by
  refine ⟨fun A X s vs Q E ro p xi rv k => ?_⟩
  obtain ⟨o, d, ho, hd, hcd, hdb, hds, hdc, hdg, hdbl, hbind⟩ := hfd _ p
  have hvl : vs.length = args.length := rv.length
  have hb := hbind vs hvl
  have hdep := ro.depth
  have hun := ro.units
  have hzip1 : ∀ x ∈ ns.zip vs, x.1 ∈ ns := fun x hx => (List.of_mem_zip (a := x.1) (b := x.2) hx).1
  have hmapz : (ns.zip vs).map (·.1) = ns := by
    rw [List.map_fst_zip]; omega
  refine wpAny_call (codeAny_call_cells (by omega) ho hd p.top.nolimit hcd hdb hb hdc (fun x hx => by rw [hds]; exact parsOk_spec hp _ (hzip1 x hx)) (fun s₁ ic => ?_) (by rw [hds]; exact hco) (by rw [hds]; exact hgen) (by rw [hds]; exact hk))
  generalize hL : s.heap.objs.size = L at ic
  have henv : callEnvC d L a = newEnv scope L mainGlobals (cellsFrom (L + 1) scope.names []) (d.qualname ++ ".<locals>.") (some a) d.code none builtinsNs := by
    unfold callEnvC; rw [hds, hdg, hdbl]
  rw [henv] at ic ⊢
  generalize d.qualname ++ ".<locals>." = qual at *
  obtain ⟨h₁, tk₁, hs₁⟩ := ic.toInCall.same
  subst hs₁
  have st₁ : StIn s.heap h₁ := ic.toInCall.keep
  obtain ⟨lfr, hlfr⟩ := ro.fr
  let C : CX := ⟨g, A.deeper (newEnv scope L mainGlobals (cellsFrom (L + 1) scope.names []) qual (some a) d.code none builtinsNs), newEnv scope L mainGlobals (cellsFrom (L + 1) scope.names []) qual (some a) d.code none builtinsNs, n⟩
  have ok : C.Ok := by
    refine ⟨⟨ro.hh, ?_, ?_, ⟨_, Around.frames_deeper hlfr⟩⟩, hk, rfl, rfl, ⟨_, lfr, Around.frames_deeper hlfr, hgen, hco, rfl, rfl⟩⟩
    · show A.depth + 1 + n + 110 < recursionLimit; omega
    · show A.units + 3 + 16 * n + 100 < cLine; omega
  have FS1 : FS C s X none ⟨ns.zip args, none⟩ { s with heap := h₁, toks := tk₁ } := by
    refine ⟨⟨_, _, ic⟩, ?_, trivial, xi⟩
    intro x av e
    obtain ⟨v, hv, rx⟩ := lookup_zip (rv.st st₁) e
    refine ⟨v, ?_, by simpa using rx⟩
    have hxn : x ∈ ns := hzip1 (x, v) (mem_of_lookup hv)
    rcases parsOk_spec hp (L + 1) hxn with h1 | ⟨h1, h2⟩
    · exact .inl ⟨h1, _, ic.toInCall.ns, bindL_spec _ _ x v (by rw [hmapz]; exact hnd) hv h1⟩
    · obtain ⟨c, hc⟩ := Option.isSome_iff_exists.mp h2
      refine .inr ⟨.inl h1, c, hc, ?_⟩
      have := ic.cell x c hc
      rw [bindC_spec _ _ x v (by rw [hmapz]; exact hnd) hv h1] at this
      exact this
  refine wpAny_mono ((hbody _ L qual d.code).go ok s X none _ _ p FS1 fun afl fl S' β' h' tk F' fk bv rf ψ => ?_) (fun _ _ x => x) fun _ _ x => x.elim
  have keep := F'.keep
  cases afl with
  | ret av => obtain ⟨v, rfl, rv'⟩ := rf; exact k av v h' tk keep rv' ψ
  | next => obtain rfl : fl = .next := rf; exact k .none .none h' tk keep rfl ψ
  | brk => exact ψ.elim
  | cont => exact ψ.elim

/-- a plain def of the text -/
theorem Calls_of {g : GX} {n : Nat} {f : Str} {params : Arguments} {pos : Pos} {ns : List Str} {body : List Stmt} {scope : Scope} {args : List AV} {Φ : AV → Prop}
    (hd : (⟨f, params, body, scope, pos⟩ : DefRec) ∈ recsOf g.p)
    (hbind : ∀ (vs : List Value) (pm cd doc : Value), vs.length = args.length → bindArgs (Calls.docDef f params body scope pm cd doc) ⟨vs, []⟩ = pure (ns.zip vs))
    (hlen : ns.length = args.length) (hp : parsOk ns scope = true) (hnd : ns.Nodup) (hk : scope.kind = .function) (hgen : scope.isGenerator = false) (hco : scope.isCoroutine = false)
    (hbody : ∀ (A : Around) (L a : Addr) (qual : Str) (code : Value), Ex ⟨g, A, newEnv scope L mainGlobals (cellsFrom (L + 1) scope.names []) qual (some a) code none builtinsNs, n⟩ ⟨ns.zip args, none⟩ body fun fl _ => match fl with
      | .ret v => Φ v
      | .next => Φ .none
      | _ => False) : Calls g (n + 1) f args Φ := by
  obtain ⟨h, T, _⟩ := g.inh
  obtain ⟨a, o, pm, code, doc, h1, _⟩ := T.fn _ hd
  have at_ : ∀ h, PG g h → ∃ o pm code doc, h.get? a = some o ∧ o.data = .func (Calls.docDef f params body scope pm code doc) ∧ h.CodeRec code f := by
    intro h p
    obtain ⟨a', o, pm, code, doc, h1', h2, h3, h4⟩ := p.top.fn _ hd
    rw [h1] at h1'; cases h1'
    exact ⟨o, pm, code, doc, h2, h3, h4⟩
  refine ⟨a, ⟨h1, fun h p => let ⟨o, pm, code, doc, q1, q2, _⟩ := at_ h p; ⟨o, _, q1, q2⟩⟩, ?_⟩
  refine CallsV_of (fun h p => ?_) hlen hp hnd hk hgen hco (fun A L qual code => hbody A L a qual code)
  obtain ⟨o, pm, code, doc, q1, q2, q3⟩ := at_ h p
  exact ⟨o, _, q1, q2, q3, rfl, rfl, rfl, rfl, rfl, fun vs hv => hbind vs pm code doc hv⟩
theorem FnIs_of {g : GX} {f : Str} {params : Arguments} {pos : Pos} {body : List Stmt} {scope : Scope} (hd : (⟨f, params, body, scope, pos⟩ : DefRec) ∈ recsOf g.p) : ∃ a, FnIs g f a := by
  obtain ⟨h, T, _⟩ := g.inh
  obtain ⟨a, o, pm, code, doc, h1, _⟩ := T.fn _ hd
  refine ⟨a, h1, fun h p => ?_⟩
  obtain ⟨a', o, pm, code, doc, h1', h2, h3, h4⟩ := p.top.fn _ hd
  rw [h1] at h1'; cases h1'
  exact ⟨o, _, h2, h3⟩
theorem law_end {l : OpenLaw} {cl : Str → Option Addr} {mean : ExcName → Option Value} {args : List WData} {s₁ s' : Shared} (hk : StIn s₁.heap s'.heap) (ho : s'.os = s₁.os) (hg : s'.gens = #[]) :
    GoodWG l.row.claim cl mean args s₁ (.ok (.ret (.bool true))) s' := by
  refine GoodW.toG ⟨.inl ⟨.bool true, .bool true, [], rfl, fun _ => rfl, .bool true, ?_, fun _ => ⟨.nil, fun _ h => nomatch h⟩⟩, hk, ho, hg⟩
  exact postW_of rfl (w_eq_bool (w_res rfl) w_lit) rfl

theorem law_go {l : OpenLaw} {g : GX} {cl : Str → Option Addr} {mean : ExcName → Option Value} {args : List WData} {s₁ : Shared} {fa la : Addr} {vs : List Value} {ns : List Int} {n : Nat} (hpr : g.prog = l.row.prog) (p : PG g s₁.heap) (hg : s₁.gens = #[])
    (hf : g.mg "law" = some (.ref fa)) (hL : s₁.heap.IsList la vs.toArray) (hI : IntsAre vs ns) (hn : n ≤ 400) (hc : Calls g n "law" [.lst (IL ns)] fun v => v = .bool true) :
    wpAny (model l.row.prog g.w) callerA (call (.ref fa) [.ref la]) (fun v s' => GoodWG l.row.claim cl mean args s₁ (.ok (.ret v)) s') (fun e s' => GoodWG l.row.claim cl mean args s₁ (.error e) s') s₁ := by
  obtain ⟨a, ⟨h1, _⟩, hc⟩ := hc
  rw [hf] at h1; cases h1
  rw [← hpr]
  refine hc.go callerA [] s₁ [.ref la] _ _ ⟨rfl, ?_, ?_, ⟨_, rfl⟩⟩ p (fun _ h => nomatch h) ⟨_, _, rfl, ⟨la, vs, rfl, by simp, hL, RelVs.of_ints hI⟩, rfl⟩ fun av v h' tk st rv e => ?_
  · show 1 + 300 + n + 110 < 1000; omega
  · show 4 + 16 * n + 100 < 9900; omega
  · subst e
    obtain rfl : v = .bool true := rv
    exact law_end st rfl hg
theorem ifT {c : Bool} {P Q : Prop} (h1 : c = true → P) (h2 : c = false → Q) : if c = true then P else Q := by cases c <;> simp_all
theorem ifD {p : Prop} [Decidable p] {P Q : Prop} (h1 : p → P) (h2 : ¬ p → Q) : if decide p = true then P else Q := ifT (fun h => h1 (of_decide_eq_true h)) (fun h => h2 (of_decide_eq_false h))
theorem ifDn {p : Prop} [Decidable p] {P Q : Prop} (h1 : ¬ p → P) (h2 : p → Q) : if (!decide p) = true then P else Q := ifT (fun h => h1 (by simpa using h)) (fun h => h2 (by simpa using h))
theorem ifE {a b : Int} {P Q : Prop} (h1 : a = b → P) (h2 : a ≠ b → Q) : if (a == b) = true then P else Q := ifT (fun h => h1 (by simpa using h)) (fun h => h2 (by simpa using h))
theorem ifN {a b : Int} {P Q : Prop} (h1 : a ≠ b → P) (h2 : a = b → Q) : if (a != b) = true then P else Q := ifT (fun h => h1 (by simpa using h)) (fun h => h2 (by simpa using h))
theorem IntMulOk.small_l {a b : Int} (h : a.natAbs < 2 ^ 62) : IntMulOk a b := IntMulOk.of_left (intBits_le_64 (by omega) (by omega))
theorem IntMulOk.small_r {a b : Int} (h : b.natAbs < 2 ^ 62) : IntMulOk a b := IntMulOk.of_right (intBits_le_64 (by omega) (by omega))

theorem boot_abs : bootBuiltins "abs" = some (.builtin "abs") := by decide +kernel
theorem boot_len : bootBuiltins "len" = some (.builtin "len") := by decide +kernel
theorem boot_divmod : bootBuiltins "divmod" = some (.builtin "divmod") := by decide +kernel
theorem boot_isinstance : bootBuiltins "isinstance" = some (.builtin "isinstance") := by decide +kernel
theorem boot_sum : bootBuiltins "sum" = some (.builtin "sum") := by decide +kernel
theorem boot_min : bootBuiltins "min" = some (.builtin "min") := by decide +kernel
theorem boot_max : bootBuiltins "max" = some (.builtin "max") := by decide +kernel
theorem boot_sorted : bootBuiltins "sorted" = some (.builtin "sorted") := by decide +kernel
theorem boot_range : bootBuiltins "range" = some (.type "range") := by decide +kernel
theorem boot_int : bootBuiltins "int" = some (.type "int") := by decide +kernel
theorem boot_str : bootBuiltins "str" = some (.type "str") := by decide +kernel
theorem boot_type : bootBuiltins "type" = some (.type "type") := by decide +kernel
theorem boot_bool : bootBuiltins "bool" = some (.type "bool") := by decide +kernel
section
variable {C : CX} {S : AS} {Φ : AV → Prop} {fp pos : Pos} {args : List Expr}
theorem Ev_abs (hx : C.env.kindOf "abs" = some .globalImplicit) (h : Evs C S args fun avs => CallB C (.builtin "abs") avs Φ) (ha : ∃ x r, starEach args C.env = (false, x) :: r ∧ (starEach args C.env).any (·.1) = false := by exact ⟨_, _, rfl, rfl⟩) :
    Ev C S (.Call (.Name "abs" fp) args [] pos) Φ := Ev_callB (C.g.nob _ (by decide)) boot_abs hx h ha
theorem Ev_len (hx : C.env.kindOf "len" = some .globalImplicit) (h : Evs C S args fun avs => CallB C (.builtin "len") avs Φ) (ha : ∃ x r, starEach args C.env = (false, x) :: r ∧ (starEach args C.env).any (·.1) = false := by exact ⟨_, _, rfl, rfl⟩) :
    Ev C S (.Call (.Name "len" fp) args [] pos) Φ := Ev_callB (C.g.nob _ (by decide)) boot_len hx h ha
theorem Ev_divmod (hx : C.env.kindOf "divmod" = some .globalImplicit) (h : Evs C S args fun avs => CallB C (.builtin "divmod") avs Φ) (ha : ∃ x r, starEach args C.env = (false, x) :: r ∧ (starEach args C.env).any (·.1) = false := by exact ⟨_, _, rfl, rfl⟩) :
    Ev C S (.Call (.Name "divmod" fp) args [] pos) Φ := Ev_callB (C.g.nob _ (by decide)) boot_divmod hx h ha
theorem Ev_isinstance (hx : C.env.kindOf "isinstance" = some .globalImplicit) (h : Evs C S args fun avs => CallB C (.builtin "isinstance") avs Φ) (ha : ∃ x r, starEach args C.env = (false, x) :: r ∧ (starEach args C.env).any (·.1) = false := by exact ⟨_, _, rfl, rfl⟩) :
    Ev C S (.Call (.Name "isinstance" fp) args [] pos) Φ := Ev_callB (C.g.nob _ (by decide)) boot_isinstance hx h ha
theorem Ev_sum (hx : C.env.kindOf "sum" = some .globalImplicit) (h : Evs C S args fun avs => CallB C (.builtin "sum") avs Φ) (ha : ∃ x r, starEach args C.env = (false, x) :: r ∧ (starEach args C.env).any (·.1) = false := by exact ⟨_, _, rfl, rfl⟩) :
    Ev C S (.Call (.Name "sum" fp) args [] pos) Φ := Ev_callB (C.g.nob _ (by decide)) boot_sum hx h ha
theorem Ev_min (hx : C.env.kindOf "min" = some .globalImplicit) (h : Evs C S args fun avs => CallB C (.builtin "min") avs Φ) (ha : ∃ x r, starEach args C.env = (false, x) :: r ∧ (starEach args C.env).any (·.1) = false := by exact ⟨_, _, rfl, rfl⟩) :
    Ev C S (.Call (.Name "min" fp) args [] pos) Φ := Ev_callB (C.g.nob _ (by decide)) boot_min hx h ha
theorem Ev_max (hx : C.env.kindOf "max" = some .globalImplicit) (h : Evs C S args fun avs => CallB C (.builtin "max") avs Φ) (ha : ∃ x r, starEach args C.env = (false, x) :: r ∧ (starEach args C.env).any (·.1) = false := by exact ⟨_, _, rfl, rfl⟩) :
    Ev C S (.Call (.Name "max" fp) args [] pos) Φ := Ev_callB (C.g.nob _ (by decide)) boot_max hx h ha
theorem Ev_sorted (hx : C.env.kindOf "sorted" = some .globalImplicit) (h : Evs C S args fun avs => CallB C (.builtin "sorted") avs Φ) (ha : ∃ x r, starEach args C.env = (false, x) :: r ∧ (starEach args C.env).any (·.1) = false := by exact ⟨_, _, rfl, rfl⟩) :
    Ev C S (.Call (.Name "sorted" fp) args [] pos) Φ := Ev_callB (C.g.nob _ (by decide)) boot_sorted hx h ha
theorem Ev_range (hx : C.env.kindOf "range" = some .globalImplicit) (h : Evs C S args fun avs => CallB C (.type "range") avs Φ) (ha : ∃ x r, starEach args C.env = (false, x) :: r ∧ (starEach args C.env).any (·.1) = false := by exact ⟨_, _, rfl, rfl⟩) :
    Ev C S (.Call (.Name "range" fp) args [] pos) Φ := Ev_callT (C.g.nob _ (by decide)) boot_range hx h ha
theorem Ev_int (hx : C.env.kindOf "int" = some .globalImplicit) (h : Evs C S args fun avs => CallB C (.type "int") avs Φ) (ha : ∃ x r, starEach args C.env = (false, x) :: r ∧ (starEach args C.env).any (·.1) = false := by exact ⟨_, _, rfl, rfl⟩) :
    Ev C S (.Call (.Name "int" fp) args [] pos) Φ := Ev_callT (C.g.nob _ (by decide)) boot_int hx h ha
theorem Ev_str (hx : C.env.kindOf "str" = some .globalImplicit) (h : Evs C S args fun avs => CallB C (.type "str") avs Φ) (ha : ∃ x r, starEach args C.env = (false, x) :: r ∧ (starEach args C.env).any (·.1) = false := by exact ⟨_, _, rfl, rfl⟩) :
    Ev C S (.Call (.Name "str" fp) args [] pos) Φ := Ev_callT (C.g.nob _ (by decide)) boot_str hx h ha
theorem Ev_type (hx : C.env.kindOf "type" = some .globalImplicit) (h : Evs C S args fun avs => CallB C (.type "type") avs Φ) (ha : ∃ x r, starEach args C.env = (false, x) :: r ∧ (starEach args C.env).any (·.1) = false := by exact ⟨_, _, rfl, rfl⟩) :
    Ev C S (.Call (.Name "type" fp) args [] pos) Φ := Ev_callT (C.g.nob _ (by decide)) boot_type hx h ha
theorem Ev_ty_int (hx : C.env.kindOf "int" = some .globalImplicit) (h : Φ (.ty "int")) : Ev C S (.Name "int" pos) Φ := Ev_boot (av := .ty "int") (C.g.nob _ (by decide)) boot_int hx (fun _ _ => rfl) h
theorem Ev_ty_bool (hx : C.env.kindOf "bool" = some .globalImplicit) (h : Φ (.ty "bool")) : Ev C S (.Name "bool" pos) Φ := Ev_boot (av := .ty "bool") (C.g.nob _ (by decide)) boot_bool hx (fun _ _ => rfl) h
end
theorem AS.le_of {S S' : AS} (h : ∀ p ∈ S'.vs, S.vs.lookup p.1 = some p.2) (ho : S.own = S'.own) : S.le S' := ⟨fun x av e => h (x, av) (mem_of_lookup e), ho⟩
-- one step of the walk
local macro_rules | `(tactic| walk_at "mw") => `(tactic| first
  | refine Ex_cons ?_
  | refine Ex_nil ?_
  | refine ExS_assign ?_ ⟨.inl rfl, by first | exact trivial | exact rfl⟩
  | refine ExS_assign ?_ ⟨.inr ⟨rfl, rfl⟩, by first | exact trivial | exact rfl⟩
  | refine ExS_return ?_
  | refine ExS_if ?_
  | refine ExS_swap2 ?_ ⟨.inl rfl, by first | exact trivial | exact rfl⟩ ⟨.inl rfl, by first | exact trivial | exact rfl⟩
  | refine ExS_unpack2 ?_ ⟨.inl rfl, by first | exact trivial | exact rfl⟩ ⟨.inl rfl, by first | exact trivial | exact rfl⟩
  | refine ExS_aug rfl ?_ ⟨.inl rfl, by first | exact trivial | exact rfl⟩
  | refine Ev_const_int ?_
  | refine Ev_const_bool ?_
  | refine Ev_const_str ?_
  | refine Ev_const_none ?_
  | refine Ev_name rfl ?_
  | refine Ev_bin ?_
  | refine Ev_una ?_
  | refine Ev_cmp ?_
  | refine Ev_tuple ?_
  | refine Ev_list ?_
  | refine Ev_ifexp ?_
  | refine Evs_cons ?_
  | refine Evs_nil ?_
  | refine Tst_cmp ?_
  | refine Tst_not ?_
  | refine Tst_boolop ?_
  | refine Tsts_and_cons ?_
  | refine Tsts_and_nil ?_
  | refine Tsts_or_cons ?_
  | refine Tsts_or_nil ?_
  | refine Bin_add ?_
  | refine Bin_sub ?_
  | refine Bin_mul (IntMulOk.of_left (by decide)) ?_
  | refine Bin_mul (IntMulOk.of_right (by decide)) ?_
  | refine Bin_and ?_
  | refine Bin_add_bool ?_
  | refine Una_neg ?_
  | refine Una_not ?_
  | refine Cmp_eq ?_
  | refine Cmp_ne ?_
  | refine Cmp_lt ?_
  | refine Cmp_le ?_
  | refine Cmp_gt ?_
  | refine Cmp_ge ?_
  | refine Trt_bool ?_
  | refine Trt_int ?_
  | refine Ev_abs rfl ?_
  | refine Ev_len rfl ?_
  | refine Ev_divmod rfl ?_
  | refine Ev_isinstance rfl ?_
  | refine Ev_sum rfl ?_
  | refine Ev_min rfl ?_
  | refine Ev_max rfl ?_
  | refine Ev_sorted rfl ?_
  | refine Ev_range rfl ?_
  | refine Ev_int rfl ?_
  | refine Ev_str rfl ?_
  | refine Ev_type rfl ?_
  | refine Ev_ty_int rfl ?_
  | refine Ev_ty_bool rfl ?_
  | refine CallB_abs ?_
  | refine CallB_divmod (by first | assumption | omega) ?_
  | refine Bin_fdiv (by first | assumption | omega | decide) ?_
  | refine Bin_mod (by first | assumption | omega | decide) ?_
  | refine Bin_shr (by first | assumption | omega | decide) ?_
  | refine CallB_len (by first | assumption | omega | decide) ?_
  | (refine ⟨_, _, rfl, ?_⟩)
  | refine CallB_isint ?_
  | refine CallB_isbool ?_
  | refine CallB_range1 ?_
  | refine CallB_range2 ?_
  | refine CallB_range3 (by decide) ?_
  | refine CallB_max ?_
  | refine CallB_min ?_
  | refine CallB_int ?_
  | refine CallB_sum ?_
  | refine IBin_add ?_
  | refine IBin_sub ?_
  | refine Tst_val ?_)
local macro_rules | `(tactic| walk_at "le") => `(tactic| (refine AS.le_of ?_ rfl; repeat (first | (refine List.forall_mem_cons.mpr ⟨rfl, ?_⟩) | exact List.forall_mem_nil _)))
variable {C : CX} {S : AS} {Φ : AV → Prop} {Ψ : AFl → AS → Prop}

/-- the frame of a comprehension -/
abbrev CX.comp (C : CX) (scope : Scope) (cl : List (Str × Addr)) (a : Addr) : CX := { C with env := compEnvC scope cl a C.env }
/-- a comprehension's tests -/
def CTst (C : CX) (S : AS) (ifs : List Expr) (b : Bool) : Prop := match ifs with
  | [] => b = true
  | [e] => Tst C S e fun c => c = b
  | _ => False

/-- what a comprehension takes from without -/
def Caps (C : CX) (S : AS) (scope : Scope) (cl : List (Str × Addr)) (x : Str) (caps : AM) : Prop :=
  ∀ p ∈ caps, S.vs.lookup p.1 = some p.2 ∧ C.env.kindOf p.1 = some .cell ∧ (relabel scope C.env).names.lookup p.1 = some .cell ∧ cl.lookup p.1 = C.env.cells.lookup p.1 ∧ (p.1 == x) = false

/-- the parts of a comprehension over ints -/
structure CompIn (C : CX) (S : AS) (scope : Scope) (cl : List (Str × Addr)) (x : Str) (caps : AM) (ifs : List Expr) (elt : Expr) (ns : List Int) (c : Int → Bool) (f : Int → Int) : Prop where
  capt : Caps C S scope cl x caps
  tests : ∀ n ∈ ns, ∀ a, CTst (C.comp scope cl a) ⟨(x, .int n) :: caps, none⟩ ifs (c n)
  elts : ∀ n ∈ ns, c n = true → ∀ a, Ev (C.comp scope cl a) ⟨(x, .int n) :: caps, none⟩ elt fun v => v = .int (f n)

theorem lookup_caps {x y : Str} {av : AV} {n : Int} {caps : AM} (e : ((x, AV.int n) :: caps).lookup y = some av) : (y = x ∧ av = .int n) ∨ ((y, av) ∈ caps) := by
  rw [List.lookup_cons] at e
  cases hb : y == x with
  | true => rw [hb] at e; cases e; exact .inl ⟨beq_iff_eq.mp hb, rfl⟩
  | false => rw [hb] at e; exact .inr (mem_of_lookup e)

theorem CX.Ok.comp (ok : C.Ok) {scope : Scope} {cl : List (Str × Addr)} {a : Addr} (hk : scope.kind = .function) : (C.comp scope cl a).Ok := ⟨ok.room, hk, ok.glob, ok.blt, ok.seer⟩

/-- the quiet parts, as the library wants them -/
theorem comp_quiet {scope : Scope} {cl : List (Str × Addr)} {x : Str} {caps : AM} {ifs : List Expr} {elt : Expr} {ns : List Int} {c : Int → Bool} {f : Int → Int} {X : List Addr} {h₁ : Heap} {o : Obj} {P : Nat → Value → Prop} {s₂ : Shared}
    (ok : C.Ok) (hk : scope.kind = .function) (hx : scope.names.lookup x = some .local) (hin : CompIn C S scope cl x caps ifs elt ns c f) (p : PG C.g h₁) (xi : XIn X h₁) (rs : RelS C.env X h₁ S) (hs₂ : s₂.heap = h₁.push o)
    (hP : ∀ i v, P i v → ∃ n t, ns[i]? = some n ∧ v = .int n t) :
    QuietOnC C.g.prog C.g.w C.A C.env scope cl x ifs elt [h₁.objs.size] P (fun v => match v with | .int n _ => c n | _ => false) (fun v y => ∃ n t u, v = .int n t ∧ y = .int (f n) u) s₂ := by
  have old : ∀ s₃ : Shared, (∀ b o, b ∉ [h₁.objs.size] → s₂.heap.get? b = some o → s₃.heap.get? b = some o) → StIn h₁ s₃.heap := fun s₃ hk b o' e => by
    refine hk b o' ?_ (by rw [hs₂]; exact Heap.get?_push_of_some _ e)
    intro hm
    have := Heap.lt_size e
    rw [List.mem_singleton.mp hm] at this
    exact Nat.lt_irrefl _ this
  have relS : ∀ (a : Addr) (n : Int) (t : Tok) (s₃ : Shared) (m₃ : Str → Option Value), StIn h₁ s₃.heap → s₃.heap.Ns a m₃ → m₃ x = some (.int n t) → RelS (C.comp scope cl a).env X s₃.heap ⟨(x, .int n) :: caps, none⟩ := by
    intro a n t s₃ m₃ st hn hm
    refine ⟨fun y av e => ?_, fun _ _ e => by cases e⟩
    rcases lookup_caps e with ⟨rfl, rfl⟩ | hmem
    · exact ⟨.int n t, .inl ⟨lookup_relabel_local hx, m₃, hn, hm⟩, ⟨t, rfl⟩⟩
    · obtain ⟨h1, h2, h3, h4, _⟩ := hin.capt _ hmem
      obtain ⟨v, hr, hv⟩ := rs.1 y av h1
      rcases hr with ⟨hk', _⟩ | ⟨_, c', hc', hcell⟩
      · have h2' : C.env.kindOf y = some .cell := h2
        rw [h2'] at hk'; cases hk'
      · exact ⟨v, .inr ⟨.inl h3, c', by rw [← hc']; exact h4, hcell.keeps st⟩, hv.st st⟩
  constructor
  · intro a i v s₃ m₃ E' ha hPv hn hm hkp _
    obtain ⟨n, t, hni, rfl⟩ := hP i v hPv
    have st := old s₃ hkp
    have hT := hin.tests n (List.mem_of_getElem? hni) a
    unfold CTst at hT
    split at hT
    · exact wpAny_tests_nil ⟨hT.symm, ⟨s₃.heap, s₃.toks, rfl, fun _ _ e => e⟩⟩
    · refine wpAny_tests_one (hT.go (ok.comp hk) X s₃ _ E' (p.st st) (xi.st st) (relS a n t s₃ m₃ st hn hm) fun b h' tk st' e => ⟨e, ⟨h', tk, rfl, st'⟩⟩)
    · exact hT.elim
  · intro a i v s₃ m₃ E' ha hPv hpv hn hm hkp _
    obtain ⟨n, t, hni, rfl⟩ := hP i v hPv
    have st := old s₃ hkp
    exact (hin.elts n (List.mem_of_getElem? hni) hpv a).go (ok.comp hk) X s₃ _ E' (p.st st) (xi.st st) (relS a n t s₃ m₃ st hn hm) fun av w h' tk st' rv e => by
      subst e
      obtain ⟨u, rfl⟩ := rv
      exact ⟨⟨n, t, u, rfl, rfl⟩, ⟨h', tk, rfl, st'⟩⟩

theorem comp_ends {ns : List Int} {c : Int → Bool} {f : Int → Int} {P : Nat → Value → Prop} {vs ys : List Value} (hP : ∀ i v, P i v → ∃ n t, ns[i]? = some n ∧ v = .int n t) (hlen : vs.length = ns.length) (hvs : ∀ (j : Nat) v, vs[j]? = some v → P j v)
    (hF : Paired (fun v y => ∃ n t u, v = Value.int n t ∧ y = Value.int (f n) u) (vs.filter fun v => match v with | .int n _ => c n | _ => false) ys) : IntsAre ys ((ns.filter c).map f) := by
  have hall : ∀ v, v ∈ vs → ∃ a t, v = Value.int a t := fun v hv => by
    obtain ⟨j, hj⟩ := List.mem_iff_getElem?.mp hv
    obtain ⟨n, t, _, e⟩ := hP j v (hvs j v hj)
    exact ⟨n, t, e⟩
  obtain ⟨h1, h2⟩ := paired_ints c f vs ys hall hF
  have hI : ∀ (ns : List Int) (vs : List Value), vs.length = ns.length → (∀ (j : Nat) v, vs[j]? = some v → ∃ n t, ns[j]? = some n ∧ v = .int n t) → IntsAre vs ns := by
    intro ns
    induction ns with
    | nil => intro vs hl _; rw [List.length_eq_zero_iff.mp hl]; exact .nil
    | cons n ns ih =>
      intro vs hl hv
      cases vs with
      | nil => simp at hl
      | cons v vs =>
        obtain ⟨n', t, e1, e2⟩ := hv 0 v rfl
        obtain rfl : n = n' := by simpa using e1
        rw [e2]
        exact .cons n t (ih vs (by simpa using hl) fun j w hw => by simpa using hv (j + 1) w (by simpa using hw))
  have hvI := hI ns vs hlen fun j v hj => hP j v (hvs j v hj)
  rw [hvI.numsOf] at h2
  have hyI : ∀ ys : List Value, (∀ y, y ∈ ys → ∃ b u, y = Value.int b u) → IntsAre ys (numsOf ys) := by
    intro ys
    induction ys with
    | nil => intro _; exact .nil
    | cons y ys ih =>
      intro hy
      obtain ⟨b, u, rfl⟩ := hy y List.mem_cons_self
      exact .cons b u (ih fun z hz => hy z (List.mem_cons_of_mem _ hz))
  rw [← h2]
  exact hyI ys h1

theorem itr_ints {X : List Addr} {ns : List Int} {I : Addr} {h₀ : Heap} {fp : List Addr} {P : Nat → Value → Prop} {St : Nat → Heap → Prop} (it : Itr C X (IL ns) I h₀ fp P St) : ∀ i v, P i v → ∃ n t, ns[i]? = some n ∧ v = .int n t := by
  intro i v hP
  obtain ⟨av, h1, h2⟩ := it.item i v hP
  rw [List.getElem?_map] at h1
  cases hn : ns[i]? with
  | none => rw [hn] at h1; cases h1
  | some n =>
    rw [hn] at h1; cases h1
    obtain ⟨t, rfl⟩ := h2
    exact ⟨n, t, rfl, rfl⟩

/-- a list comprehension over ints -/
theorem Ev_comp {elt iter : Expr} {x : Str} {px pos : Pos} {ifs : List Expr} {scope : Scope} {cl : List (Str × Addr)} (caps : AM) (c : Int → Bool) (f : Int → Int)
    (hclos : closureFor scope C.env = pure cl)
    (h : Ev C S iter fun av => ∃ ns : List Int, Items av (IL ns) ∧ ns.length ≤ 2 ^ 20 ∧ CompIn C S scope cl x caps ifs elt ns c f ∧ Φ (.lst (IL ((ns.filter c).map f))))
    (hcell : ∀ y ∈ scope.names, y.2 ≠ .cell := by decide) (hkind : scope.kind = .function := by rfl)
    (hnames : ∀ y ∈ scope.names, y.2 = .local → scope.names.lookup y.1 = some .local := by decide) (hx : scope.names.lookup x = some .local := by rfl)
    (hs : ∀ x, foldedSetIterable iter C.env x = pure x := by intro _; rfl) : Ev C S (.ListComp elt [⟨.Name x px, iter, ifs, 0⟩] scope pos) Φ := by
  refine ⟨fun ok X s Q E p xi rs k => ?_⟩
  refine wpAny_ListComp_free (fun v => match v with | .int n _ => c n | _ => false) (fun v y => ∃ n t u, v = .int n t ∧ y = .int (f n) u) hclos hcell hkind hnames hx
    (h.go ok X s _ E p xi rs fun av v h₁ t₁ st₁ rv hyp => ?_) hs
  obtain ⟨ns, hit, hlen, hin, φ⟩ := hyp
  refine iter_go ok hit rv fun fp P St o itr hfree => ?_
  have hP := itr_ints itr
  have hI : St 0 (h₁.push o) := itr.start
  have st₂ : StIn s.heap (h₁.push o) := st₁.trans (StIn.push _ _)
  refine ⟨h₁.objs.size, fp, [h₁.objs.size], (IL ns).length, P, St, rfl, itr.walk, ?_, hI, ?_, comp_quiet (s₂ := { s with heap := h₁.push o, toks := t₁ }) ok hkind hx hin (p.st st₁) (xi.st st₁) (rs.st st₁) rfl hP, fun D h' tk ys vs hD hl hpl hvl hvP hF hkp => ?_⟩
  · rw [List.length_map, sizeLine_eq]; omega
  · intro b hb
    rcases itr.fps b hb with rfl | ⟨_, o', ho', _⟩ | ⟨o', ho', _⟩
    · show h₁.objs.size < (h₁.push o).objs.size
      rw [Heap.size_push]; exact Nat.lt_succ_self _
    · exact Heap.lt_size ho'
    · exact Heap.lt_size ho'
  · have stE : StIn s.heap h' := fun b o' e => hkp b o' (fun hm => by
      have h2 := Heap.lt_size (st₁ _ _ e)
      rw [List.mem_singleton.mp hm] at h2
      exact Nat.lt_irrefl _ h2) (st₂ _ _ e)
    have hi := comp_ends (ys := ys.toList) hP (by rw [hvl, List.length_map]) hvP hF
    exact k (.lst (IL ((ns.filter c).map f))) _ h' tk stE ⟨D, ys.toList, rfl, (xi.st st₂).none hD, hl, RelVs.of_ints hi⟩ φ

/-- the same, stored in a name at once (the stores exchanged) -/
theorem ExS_compAssign {elt iter : Expr} {x y : Str} {px py pos spos : Pos} {ifs : List Expr} {scope : Scope} {cl : List (Str × Addr)} (caps : AM) (c : Int → Bool) (f : Int → Int)
    (hclos : closureFor scope C.env = pure cl)
    (h : Ev C S iter fun av => ∃ ns : List Int, Items av (IL ns) ∧ ns.length ≤ 2 ^ 20 ∧ CompIn C S scope cl x caps ifs elt ns c f ∧ Ψ .next (S.set y (.lst (IL ((ns.filter c).map f)))))
    (hy : C.env.kindOf y = some .local) (hoff : S.off y)
    (hsw : swapsWith (.ListComp elt [⟨.Name x px, iter, ifs, 0⟩] scope pos) (some (.Name y py)) spos.line C.env = pure true := by rfl)
    (hcell : ∀ y ∈ scope.names, y.2 ≠ .cell := by decide) (hkind : scope.kind = .function := by rfl)
    (hnames : ∀ y ∈ scope.names, y.2 = .local → scope.names.lookup y.1 = some .local := by decide) (hx : scope.names.lookup x = some .local := by rfl)
    (hs : ∀ x, foldedSetIterable iter C.env x = pure x := by intro _; rfl) : ExS C S (.Assign [.Name y py] (.ListComp elt [⟨.Name x px, iter, ifs, 0⟩] scope pos) spos) Ψ := by
  refine ⟨fun ok s₀ X₀ β s Q p F k => ?_⟩
  refine wpAny_Assign_ListComp_free (fun v => match v with | .int n _ => c n | _ => false) (fun v y => ∃ n t u, v = .int n t ∧ y = .int (f n) u) hsw hclos hcell hkind hnames hx hy (by rw [ok.kind]; rfl)
    (h.go ok _ s _ _ (p.st F.keep) F.xinh F.relS fun av v h₁ t₁ st₁ rv hyp => ?_) hs
  obtain ⟨ns, hit, hlen, hin, ψ⟩ := hyp
  refine iter_go ok hit rv fun fp P St o itr hfree => ?_
  have hP := itr_ints itr
  have hI : St 0 (h₁.push o) := itr.start
  have st₂ : StIn s.heap (h₁.push o) := st₁.trans (StIn.push _ _)
  have F₂ := F.st (tk := t₁) st₂
  obtain ⟨m, cm, ic⟩ := F₂.call
  have hLlt : C.env.locals < h₁.objs.size := by
    obtain ⟨m', cm', ic'⟩ := (F.st (tk := t₁) st₁).call
    exact ic'.toInCall.ns.lt
  refine ⟨h₁.objs.size, fp, [h₁.objs.size], (IL ns).length, P, St, m, rfl, itr.walk, ?_, hI, ?_, ?_, ic.toInCall.ns, comp_quiet (s₂ := { s with heap := h₁.push o, toks := t₁ }) ok hkind hx hin ((p.st F.keep).st st₁) (F.xinh.st st₁) (F.relS.st st₁) rfl hP, fun D h' tk ys vs hD hl hpl hvl hvP hF hns hkp => ?_⟩
  · rw [List.length_map, sizeLine_eq]; omega
  · intro b hb
    rcases itr.fps b hb with rfl | ⟨_, o', ho', _⟩ | ⟨o', ho', _⟩
    · show h₁.objs.size < (h₁.push o).objs.size
      rw [Heap.size_push]; exact Nat.lt_succ_self _
    · exact Heap.lt_size ho'
    · exact Heap.lt_size ho'
  · intro hm; rw [List.mem_singleton.mp hm] at hLlt; exact Nat.lt_irrefl _ hLlt
  · have hi := comp_ends (ys := ys.toList) hP (by rw [hvl, List.length_map]) hvP hF
    have kp : ∀ b o', b ≠ C.env.locals → s.heap.get? b = some o' → h'.get? b = some o' := fun b o' hb e => hkp b o' hb (fun hm => by
      have h2 := Heap.lt_size (st₁ _ _ e)
      rw [List.mem_singleton.mp hm] at h2
      exact Nat.lt_irrefl _ h2) (st₂ _ _ e)
    have valL : ∀ a o, isVal o → s.heap.get? a = some o → a ≠ C.env.locals := by
      rintro a o hv e rfl
      obtain ⟨m, o', es, ep, ho', hd, _⟩ := F.ffr.loc
      rw [e] at ho'; cases ho'
      rcases hv with ⟨xs, n, q⟩ | ⟨_, fs, q⟩ <;> rw [hd] at q <;> cases q
    have vk : ∀ X, VKeep X s.heap h' := fun X => ⟨fun a o _ hv e => kp a o (valL a o hv e) e, fun a o hv _ e => kp a o (valL a o hv e) e⟩
    obtain ⟨m₀, cm₀, ic₀⟩ := F.call
    have hm : m = m₀ := Ns.uniq ic.toInCall.ns (ic₀.toInCall.ns.keeps st₂)
    subst hm
    have hrd : ∀ z w, (z == y) = false → Rd C.env s.heap z w → Rd C.env h' z w := by
      rintro z w hz (⟨hk, m', hn, hw⟩ | ⟨hk, c', hc', hw⟩)
      · refine .inl ⟨hk, _, hns, ?_⟩
        rw [Ns.uniq hn ic₀.toInCall.ns] at hw
        show (if z = y then some (Value.ref D) else m z) = some w
        rw [if_neg (by intro e; rw [e] at hz; simp at hz)]; exact hw
      · obtain ⟨oc, hoc, hdc⟩ := hw
        exact .inr ⟨hk, c', hc', oc, kp _ _ (Nat.ne_of_gt (ic₀.above z c' (mem_of_lookup hc'))) hoc, hdc⟩
    have hDn : s.heap.get? D = none := by
      cases e : s.heap.get? D with
      | none => rfl
      | some o' => have hD' : (h₁.push o).get? D = none := hD; rw [st₂ _ _ e] at hD'; cases hD'
    refine k .next .next _ β h' tk ⟨⟨_, cm₀, ⟨⟨?_, hns, fun b o' e => kp b o' (Nat.ne_of_lt (Nat.lt_of_lt_of_le (Heap.lt_size e) ic₀.toInCall.fresh)) (ic₀.toInCall.keep b o' e), ic₀.toInCall.fresh⟩, fun z a e => ?_, ic₀.apart, ic₀.above⟩⟩, ?_, ?_, F.xin⟩
      (fun a o' h1 _ _ e => kp a o' h1 e) (.refl _ _) rfl ψ
    · obtain ⟨h₀, t₀, e⟩ := F.same
      exact ⟨h', tk, by rw [e]⟩
    · obtain ⟨oc, hoc, hdc⟩ := ic₀.cell z a e
      exact ⟨oc, kp _ _ (Nat.ne_of_gt (ic₀.above z a (mem_of_lookup e))) hoc, hdc⟩
    · intro z aw e
      simp only [AS.set, List.lookup_cons] at e
      cases hb : z == y with
      | true =>
        rw [hb] at e; cases e
        rw [beq_iff_eq.mp hb]
        exact ⟨.ref D, .inl ⟨hy, _, hns, by simp⟩, ⟨D, ys.toList, rfl, F.xinh.none hDn, hl, RelVs.of_ints hi⟩⟩
      | false =>
        rw [hb] at e
        obtain ⟨w, h1, h2⟩ := F.vars z aw e
        exact ⟨w, hrd z w hb h1, h2.keep (vk _)⟩
    · have h := F.own
      show OwnOk C s₀ X₀ h' S.own β
      cases ho : S.own with
      | none => rw [ho] at h; cases β with | none => trivial | some _ => exact h
      | some q =>
        obtain ⟨z, l⟩ := q
        rw [ho] at h
        cases β with
        | none => exact h
        | some b =>
          obtain ⟨⟨vs, ow⟩, h1⟩ := h
          unfold AS.off at hoff
          rw [ho] at hoff
          obtain ⟨n, hb⟩ := ow.lst
          exact ⟨⟨vs, hrd z _ hoff ow.rd, ow.inX, ⟨n, kp _ _ (valL _ _ (.inl ⟨_, n, rfl⟩) hb) hb⟩, ow.rel.keep (vk _)⟩, h1⟩
variable {C : CX} {S : AS} {Φ : AV → Prop} {Ψ : AFl → AS → Prop}

theorem setItem_neg {prog : Program} {w : World} {A : Around} {E : Value → Shared → Prop} {s : Shared} {l : Addr} {items : Array Value} {k : Int} {t : Tok} {v : Value} {Q : Unit → Shared → Prop} (hl : s.heap.PlainList l items)
    (h0 : k < 0) (h1 : -(items.size : Int) ≤ k) (hfit : -(2 ^ 63) ≤ k)
    (hQ : ∀ h', h'.PlainList l (items.setIfInBounds (k + items.size).toNat v) → Heap.SameBut l s.heap h' → Q () { s with heap := h' }) : wpAny (model prog w) A (setItem (.ref l) (.int k t) v) Q E s := by
  have hl' := hl.isList
  obtain ⟨ne, ho⟩ := id hl
  have hd : ({ cls := .type "list", data := .seq items ne } : Obj).data = .seq items ne := rfl
  unfold setItem
  try with_reducible refine wpAny_holding ?_
  first | refine wpAny_bind (wpAny_pure ?_) | skip
  refine wpAny_bind (wpAny_sequenceKey hl'.typeIs (by decide) ?_)
  refine wpAny_bind (wpAny_callSpecial?_slot (name := Str.ofString "__setitem__") hl'.typeIs slot_list_setitem
    (wpAny_call_entry slot_list_setitem hl'.typeIs entry_list_setitem ?_ (args_list_setitem _ _ _)))
  show wpAny _ _ (Builtin.List.listSubscript? (.int k t) >>= _) _ _ s
  refine wpAny_bind (wpAny_listSubscript_int (fitsIndex_neg h0 hfit) ?_)
  clear hfit
  have hidx := seqIndex_neg h0 h1
  have hj : (k + items.size).toNat < items.size := by omega
  generalize (k + items.size).toNat = j at *
  obtain ⟨j', rfl⟩ : ∃ j : Nat, k = Int.negSucc j := by
    cases k with
    | ofNat n => exact absurd h0 (Int.not_lt.mpr (Int.natCast_nonneg n))
    | negSucc n => exact ⟨n, rfl⟩
  show wpAny _ _ ((Builtin.List.listItems (.ref l) >>= fun xs => pure ((seqIndex? (Int.negSucc j') xs.size).bind fun i => xs[i]?.map (i, ·))) >>= _) _ _ s
  refine wpAny_bind (wpAny_bind ?_)
  show wpAny _ _ (seqItems? (.ref l) >>= _) _ _ s
  refine wpAny_bind (wpAny_seqItems ho hd (wpAny_pure (wpAny_pure ?_)))
  rw [hidx]
  have hx' : items[j]? = some items[j] := Array.getElem?_eq_getElem hj
  simp only [Option.bind_some, hx', Option.map_some]
  show wpAny _ _ (setSeqItemAt l j v >>= _) _ _ s
  have hfin : (s.heap.update l (Obj.mapSeq (·.setIfInBounds j v))).PlainList l (items.setIfInBounds j v) := ⟨_, Heap.get?_update_self _ ho rfl⟩
  refine wpAny_bind (wpAny_setSeqItemAt ho hd ?_)
  first
    | exact wpAny_bind (wpAny_pure (wpAny_pure ⟨.none, rfl, wpAny_pure (hQ _ hfin (Heap.SameBut.update ..))⟩))
    | exact wpAny_pure ⟨.none, rfl, wpAny_pure (hQ _ hfin (Heap.SameBut.update ..))⟩

/-- a store of a name, as it stands -/
theorem store_raw {s₀ s : Shared} {x : Str} {v : Value} {M : Model} {A : Around} {Q : Unit → Shared → Prop} {E : Value → Shared → Prop} (ok : C.Ok) (ic : ∃ m cm, InCallC s₀ C.env.locals m C.env.cells cm s)
    (hx : C.env.kindOf x = some .local ∨ (C.env.kindOf x = some .cell ∧ (C.env.cells.lookup x).isSome = true))
    (k : ∀ (h' : Heap) (tk : Nat), (∃ m cm, InCallC s₀ C.env.locals m C.env.cells cm { s with heap := h', toks := tk }) → (∀ β, FKeep C β s.heap h') → (∀ a o, isVal o → s.heap.get? a = some o → h'.get? a = some o) → Rd C.env h' x v → (∀ y w, (y == x) = false → Rd C.env s.heap y w → Rd C.env h' y w) → Q () { s with heap := h', toks := tk }) :
    wpAny M A (storeName C.env x v) Q E s := by
  obtain ⟨m, cm, c⟩ := ic
  have valL : ∀ a o, isVal o → s.heap.get? a = some o → a ≠ C.env.locals := by
    rintro a o hv e rfl
    obtain ⟨o', es, ep, ho', hd, _⟩ := c.toInCall.ns
    rw [e] at ho'; cases ho'
    rcases hv with ⟨xs, n, q⟩ | ⟨_, fs, q⟩ <;> rw [hd] at q <;> cases q
  have valC : ∀ a o, isVal o → s.heap.get? a = some o → ∀ x, C.env.cells.lookup x ≠ some a := by
    intro a o hv e x hx
    obtain ⟨o', ho', hd⟩ := c.cell x a hx
    rw [e] at ho'; cases ho'
    rcases hv with ⟨xs, n, q⟩ | ⟨_, fs, q⟩ <;> rw [hd] at q <;> cases q
  rcases hx with hl | ⟨hl, hc⟩
  · refine wpAny_storeName_local hl c.toInCall.ns (fun h' hn' hs' => ?_) (by rw [ok.kind]; rfl)
    refine k h' _ ⟨_, cm, ⟨⟨?_, hn', fun b o e => ?_, c.toInCall.fresh⟩, fun k' c' hc' => ?_, c.apart, c.above⟩⟩ ?_ ?_ (.inl ⟨hl, _, hn', by simp⟩) ?_
    · obtain ⟨h₁, tk, e⟩ := c.toInCall.same
      exact ⟨h', _, by rw [e]⟩
    · exact hs'.extBut b o (Nat.ne_of_lt (Nat.lt_of_lt_of_le (Heap.lt_size e) c.toInCall.fresh)) (c.toInCall.keep b o e)
    · exact (c.cell k' c' hc').sameBut hs' (Nat.ne_of_gt (c.above k' c' (mem_of_lookup hc')))
    · exact fun _ a o h1 _ _ e => hs'.extBut a o h1 e
    · exact fun a o hv e => hs'.extBut a o (valL a o hv e) e
    · rintro y w hy (⟨hk, m', hn, hw⟩ | ⟨hk, c', hc', hw⟩)
      · refine .inl ⟨hk, _, hn', ?_⟩
        rw [Ns.uniq hn c.toInCall.ns] at hw
        show (if y = x then some v else m y) = some w
        rw [if_neg (by intro e; rw [e] at hy; simp at hy)]; exact hw
      · exact .inr ⟨hk, c', hc', hw.sameBut hs' (Nat.ne_of_gt (c.above y c' (mem_of_lookup hc')))⟩
  · obtain ⟨cc, hc⟩ := Option.isSome_iff_exists.mp hc
    have hLc := c.above x cc (mem_of_lookup hc)
    refine wpAny_storeName_cell ok.kind hl hc (c.cell x cc hc) fun h' hc' hs' => ?_
    refine k h' s.toks ⟨m, (fun y => if y = x then some v else cm y), ⟨⟨?_, c.toInCall.ns.sameBut hs' (Nat.ne_of_lt hLc), fun b o e => ?_, c.toInCall.fresh⟩, fun k' c' hk' => ?_, c.apart, c.above⟩⟩ ?_ ?_ (.inr ⟨.inl hl, cc, hc, hc'⟩) ?_
    · obtain ⟨h₁, tk, e⟩ := c.toInCall.same
      exact ⟨h', s.toks, by rw [e]⟩
    · exact hs'.extBut b o (Nat.ne_of_lt (Nat.lt_trans (Nat.lt_of_lt_of_le (Heap.lt_size e) c.toInCall.fresh) hLc)) (c.toInCall.keep b o e)
    · by_cases hkn : k' = x
      · subst hkn
        rw [hc] at hk'; cases hk'
        simpa using hc'
      · rw [if_neg hkn]
        exact (c.cell k' c' hk').sameBut hs' fun e => hkn (name_of_addr c.apart (mem_of_lookup hk') (e ▸ mem_of_lookup hc))
    · exact fun _ a o _ h2 _ e => hs'.extBut a o (fun q => h2 x (q ▸ hc)) e
    · exact fun a o hv e => hs'.extBut a o (fun q => valC a o hv e x (q ▸ hc)) e
    · rintro y w hy (⟨hk, m', hn, hw⟩ | ⟨hk, c', hc'', hw⟩)
      · exact .inl ⟨hk, m', hn.sameBut hs' (Nat.ne_of_lt hLc), hw⟩
      · refine .inr ⟨hk, c', hc'', hw.sameBut hs' fun e => ?_⟩
        have := name_of_addr c.apart (mem_of_lookup hc'') (e ▸ mem_of_lookup hc)
        rw [this] at hy; simp at hy

/-- x = [..]: an own list -/
theorem ExS_newOwn {x : Str} {px pos pl : Pos} {es : List Expr} (h : Evs C S es fun l => Ψ .next ⟨S.vs, some (x, l)⟩) (ho : S.own = none) (hl : S.vs.lookup x = none)
    (hx : C.env.kindOf x = some .local ∨ (C.env.kindOf x = some .cell ∧ (C.env.cells.lookup x).isSome = true)) (hsz : es.length ≤ 1000 := by decide)
    (hs : swapsWith (.List es pl) (some (.Name x px)) pos.line C.env = pure false := by rfl) : ExS C S (.Assign [.Name x px] (.List es pl) pos) Ψ := by
  refine ⟨fun ok s₀ X₀ β s Q p F k => ?_⟩
  have hβ : β = none := by
    have h1 := F.own; rw [ho] at h1
    cases β with | none => rfl | some _ => exact h1.elim
  subst hβ
  refine wpAny_Assign_Name (PyProof.Rows.List_ (h.go ok pl _ s _ _ (p.st F.keep) F.xinh F.relS fun avs vs h₁ t₁ st₁ r hlen ψ => ?_)) hs
  have F₁ := F.st (tk := t₁) st₁
  refine wpAny_newObj_type ?_ (by show vs.toArray.size ≤ sizeLine; rw [List.size_toArray, r.length, hlen, sizeLine_eq]; omega)
  generalize hob : ({ cls := .type "list", dict := none, data := .seq vs.toArray } : Obj) = ob
  have hget : (h₁.push ob).get? h₁.objs.size = some ob := by rw [← hob]; exact Heap.get?_push_size _ rfl
  have hnone : h₁.get? h₁.objs.size = none := by
    cases e : h₁.get? h₁.objs.size with
    | none => rfl
    | some o => exact absurd (Heap.lt_size e) (Nat.lt_irrefl _)
  have st₂ : StIn h₁ (h₁.push ob) := StIn.push _ _
  generalize hb : h₁.objs.size = b at *
  have F₂ := F₁.st (tk := t₁) st₂
  refine store_raw (s := { s with heap := h₁.push ob, toks := t₁ }) ok F₂.call hx fun h' tk hc fk hk hr hy => ?_
  have vk : ∀ X, VKeep X (h₁.push ob) h' := fun X => ⟨fun a o _ hv e => hk a o hv e, fun a o hv _ e => hk a o hv e⟩
  have hbs : s.heap.get? b = none := by
    cases e : s.heap.get? b with
    | none => rfl
    | some o => rw [st₁ _ _ e] at hnone; cases hnone
  have hs0 : s₀.heap.objs.size ≤ b := by
    obtain ⟨m, cm, c⟩ := F₁.call
    rw [← hb]
    exact Nat.le_trans c.toInCall.fresh (Nat.le_of_lt c.toInCall.ns.lt)
  refine k .next .next _ (some b) h' tk ⟨hc, ?_, ?_, F.xin⟩ ?_ ?_ rfl ψ
  · intro y aw e
    obtain ⟨w, h1, h2⟩ := F₁.vars y aw e
    have hyx : (y == x) = false := by
      cases hq : y == x with
      | false => rfl
      | true => rw [beq_iff_eq.mp hq, hl] at e; cases e
    exact ⟨w, hy y w hyx (h1.st st₂), ((RelV.more hnone aw w h2).st st₂).keep (vk _)⟩
  · refine ⟨⟨vs, hr, by simp, ?_, ?_⟩, hs0⟩
    · exact ⟨0, hk _ _ (.inl ⟨vs.toArray, 0, rfl⟩) (by rw [hget, ← hob])⟩
    · exact ((RelVs.more hnone avs vs (by simpa using r)).st st₂).keep (vk _)
  · exact FKeep.trans (.of (st₁.trans st₂)) (.refl _ _) (fk none)
  · intro c hc'
    cases hc'
    exact .inr hbs

/-- the own list is no more changed -/
theorem FS.freeze {s₀ s : Shared} {X₀ : List Addr} {β : Option Addr} {x : Str} {l : List AV} (F : FS C s₀ X₀ β S s) (ho : S.own = some (x, l)) : FS C s₀ X₀ none ⟨(x, .lst l) :: S.vs, none⟩ s := by
  have h := F.own
  rw [ho] at h
  cases β with
  | none => exact h.elim
  | some b =>
    obtain ⟨⟨vs, o⟩, hb⟩ := h
    have hX : b ∉ X₀ := fun q => by
      obtain ⟨ob, hob⟩ := Option.isSome_iff_exists.mp (F.xin b q)
      exact absurd (Heap.lt_size hob) (Nat.not_lt.mpr hb)
    refine ⟨F.call, ?_, trivial, F.xin⟩
    intro y aw e
    rw [List.lookup_cons] at e
    cases hq : y == x with
    | true =>
      rw [hq] at e; cases e
      rw [beq_iff_eq.mp hq]
      exact ⟨.ref b, o.rd, ⟨b, vs, rfl, by simpa using hX, o.lst.isList, o.rel.less fun _ hp => List.mem_cons_of_mem _ (by simpa using hp)⟩⟩
    | false =>
      rw [hq] at e
      obtain ⟨w, h1, h2⟩ := F.vars y aw e
      exact ⟨w, h1, h2.less fun _ hp => List.mem_append_right _ (by simpa using hp)⟩
theorem Ex.freeze {st : List Stmt} {x : Str} {l : List AV} (ho : S.own = some (x, l)) (h : Ex C ⟨(x, .lst l) :: S.vs, none⟩ st Ψ) : Ex C S st Ψ :=
  ⟨fun ok s₀ X₀ β s Q p F k => h.go ok s₀ X₀ none s Q p (F.freeze ho) fun afl fl S' β' h' tk F' fk bv rf ψ =>
    k afl fl S' β' h' tk F' (fun a o h1 h2 _ e => fk a o h1 h2 (by simp) e) (fun b e => .inr ((bv b e).resolve_left (by simp))) rf ψ⟩

-- reads of the own list
theorem load_own {M : Model} {A : Around} {x : Str} {pos : Pos} {l : List AV} {X : List Addr} {s : Shared} {Q : Value → Shared → Prop} {E : Value → Shared → Prop} (ok : C.Ok) (ho : S.own = some (x, l)) (rs : RelS C.env X s.heap S)
    (hd : (x == ("__debug__" : Str)) = false) (hn : (x == ("__classdict__" : Str)) = false)
    (k : ∀ b vs, OwnAt C.env X s.heap x l b vs → Q (.ref b) s) : wpAny M A (eval (.Name x pos) C.env) Q E s := by
  obtain ⟨b, vs, o⟩ := rs.2 x l ho
  exact wpAny_Name (load_rd ok.kind o.rd (k b vs o) hn) hd
theorem Ev_lenOwn {x : Str} {l : List AV} {fp px pos : Pos} (ho : S.own = some (x, l)) (hlen : l.length < 2 ^ 60) (h : Φ (.int l.length)) (hx : C.env.kindOf "len" = some .globalImplicit)
    (hd : (x == ("__debug__" : Str)) = false := by decide) (hn : (x == ("__classdict__" : Str)) = false := by decide) (hb : bootBuiltins "len" = some (.builtin "len")) : Ev C S (.Call (.Name "len" fp) [.Name x px] [] pos) Φ := by
  refine ⟨fun ok X s Q E p xi rs k => ?_⟩
  refine wpAny_Call_Name_kw ?_
  refine Calls.Name_function_global ok.kind hx (Calls.loadGlobal_builtin (by rw [ok.glob]; exact p.top.g) (C.g.nob _ (by decide)) (by rw [ok.blt]; exact p.top.b) ((p.top.builtins _ (by decide)).trans hb) ?_) (by decide)
  refine Calls.callWith_builtin rfl ?_
  show wpAny _ _ (evalArgs (.builtin "len") true [(false, _)] []) _ _ s
  refine Calls.evalArgs_plain ?_
  show wpAny _ _ (spliced (backTo pos (starEach [.Name x px] C.env))) _ _ s
  refine wpAny_items_cons (load_own ok ho rs hd hn fun b vs o => wpAny_items_nil ?_)
  have e : vs.toArray.size = l.length := by rw [List.size_toArray, o.rel.length]
  exact Calls.call_len_list o.lst.isList (by rw [e]; omega) (k (.int _) _ s.heap _ (StIn.refl _) ⟨_, by rw [e]⟩ h)
theorem Ev_itemOwn {x : Str} {l : List AV} {px pos : Pos} {slice : Expr} (ho : S.own = some (x, l))
    (h : Ev C S slice fun i => ∃ k av, i = .int k ∧ k < 0 ∧ -(l.length : Int) ≤ k ∧ -(2 ^ 60) ≤ k ∧ l[(k + l.length).toNat]? = some av ∧ Φ av)
    (hd : (x == ("__debug__" : Str)) = false := by decide) (hn : (x == ("__classdict__" : Str)) = false := by decide)
    (hs : ∀ o i, subscripted slice false o i = operate [o, i] (getItem o i) := by intro _ _; with_unfolding_all rfl) : Ev C S (.Subscript (.Name x px) slice pos) Φ := by
  refine ⟨fun ok X s Q E p xi rs k => ?_⟩
  refine PyProof.Rows.Subscript_ (load_own ok ho rs hd hn fun b vs o => ?_)
  refine h.go ok X s _ E p xi rs fun i vi h₁ t₁ st₁ ri hyp => ?_
  obtain ⟨j, av, rfl, h0, h1, h2, h3, φ⟩ := hyp
  obtain ⟨t, rfl⟩ := ri
  have o' := o.st st₁
  obtain ⟨v, hv, rv⟩ := o'.rel.get _ av h3
  exact PyProof.Rows.tail_any (s := { s with heap := h₁, toks := t₁ }) o'.lst.isList.typeIs slot_list_getitem.lookup
    (wpAny_getItem_list_neg o'.lst.isList h0 (by rw [List.size_toArray, o'.rel.length]; exact h1) (by omega) (by rw [List.size_toArray, o'.rel.length]; simpa using hv) (k av v h₁ t₁ st₁ rv φ)) (hs _ _)

/-- what a change of the own list leaves -/
theorem FS.own_change {s₀ s : Shared} {X₀ : List Addr} {b : Addr} {x : Str} {l l' : List AV} {vs' : List Value} (F : FS C s₀ X₀ (some b) S s) (ho : S.own = some (x, l)) {h' : Heap} {tk : Nat} (hs : Heap.SameBut b s.heap h') (hp : h'.PlainList b vs'.toArray) (hr : RelVs (b :: X₀) s.heap l' vs') :
    FS C s₀ X₀ (some b) ⟨S.vs, some (x, l')⟩ { s with heap := h', toks := tk } ∧ FKeep C (some b) s.heap h' := by
  have h := F.own
  rw [ho] at h
  obtain ⟨⟨vs, o⟩, hb⟩ := h
  obtain ⟨n, hbo⟩ := o.lst
  have hbL : b ≠ C.env.locals := by
    rintro rfl
    obtain ⟨m, o', es, ep, ho', hd, _⟩ := F.ffr.loc
    rw [hbo] at ho'; cases ho'; cases hd
  have hbC : ∀ y, C.env.cells.lookup y ≠ some b := by
    intro y hy
    obtain ⟨v, o', ho', hd⟩ := F.ffr.cel y b hy
    rw [hbo] at ho'; cases ho'; cases hd
  have kp : ∀ a o, a ≠ b → s.heap.get? a = some o → h'.get? a = some o := fun a o ha e => hs.extBut a o ha e
  have vk : VKeep (b :: X₀) s.heap h' := ⟨fun a o ha hv e => kp a o (by rintro rfl; exact ha List.mem_cons_self) e, fun a o hv hc e => kp a o (by rintro rfl; rw [hbo] at e; cases e; exact hc rfl) e⟩
  have hrd : ∀ y w, Rd C.env s.heap y w → Rd C.env h' y w := by
    rintro y w (⟨hk, m', hn, hw⟩ | ⟨hk, c', hc', hw⟩)
    · exact .inl ⟨hk, m', hn.sameBut hs (Ne.symm hbL), hw⟩
    · exact .inr ⟨hk, c', hc', hw.sameBut hs fun e => hbC y (e ▸ hc')⟩
  obtain ⟨m, cm, c⟩ := F.call
  refine ⟨⟨⟨m, cm, ⟨⟨?_, c.toInCall.ns.sameBut hs (Ne.symm hbL), fun a o e => kp a o (by rintro rfl; exact absurd (Heap.lt_size e) (Nat.not_lt.mpr hb)) (c.toInCall.keep a o e), c.toInCall.fresh⟩, fun y a e => (c.cell y a e).sameBut hs fun q => hbC y (q ▸ e), c.apart, c.above⟩⟩, ?_, ?_, F.xin⟩, ?_⟩
  · obtain ⟨h₁, tk₁, e⟩ := c.toInCall.same
    exact ⟨h', tk, by rw [e]⟩
  · exact fun y aw e => let ⟨w, h1, h2⟩ := F.vars y aw e; ⟨w, hrd y w h1, h2.keep vk⟩
  · exact ⟨⟨vs', hrd _ _ o.rd, o.inX, hp, hr.keep vk⟩, hb⟩
  · exact fun a o _ _ h3 e => kp a o (by rintro rfl; exact h3 rfl) e

/-- x.append(e) -/
theorem ExS_append {x : Str} {l : List AV} {px apos cpos pos : Pos} {e : Expr} (ho : S.own = some (x, l)) (h : Ev C S e fun a => l.length ≤ 2 ^ 20 ∧ Ψ .next ⟨S.vs, some (x, l ++ [a])⟩)
    (hd : (x == ("__debug__" : Str)) = false := by decide) (hn : (x == ("__classdict__" : Str)) = false := by decide)
    (hint : interactive C.env = false := by rfl)
    (hsw : swapsWith (.Call (.Attribute (.Name x px) "append" apos) [e] [] cpos) none pos.line C.env = pure false := by rfl)
    (hbase : attributeBase (.Name x px) "append" C.env (eval (.Name x px) C.env) = eval (.Name x px) C.env := by rfl)
    (hfew : ((backTo cpos (starEach [e] C.env)).all (fun x => !x.1) && (backToKw cpos (keywordEach [] C.env)).all (fun x => x.1.isSome) && decide (([e] : List Expr).length + ([] : List Keyword).length + (if ([] : List Keyword).isEmpty then 0 else 1) < 30)) = true := by rfl)
    (hline : (apos.endLine == cpos.line) = true := by rfl) (htrees : backTo cpos (starEach [e] C.env) = [(false, eval e C.env)] := by rfl) :
    ExS C S (.Expr (.Call (.Attribute (.Name x px) "append" apos) [e] [] cpos) pos) Ψ := by
  refine ⟨fun ok s₀ X₀ β s Q p F k => ?_⟩
  have hF := F.own
  rw [ho] at hF
  cases β with
  | none => exact hF.elim
  | some b =>
    obtain ⟨⟨vs, o⟩, hb⟩ := hF
    refine wpAny_Expr (wpAny_Call_append hbase hfew hline htrees (wpAny_Name (load_rd ok.kind o.rd ⟨b, vs.toArray, rfl, ?_, ?_⟩ hn) hd)) hint hsw
    · obtain ⟨n, hbo⟩ := o.lst; exact ⟨_, n, hbo, rfl, rfl, rfl⟩
    · refine h.go ok _ s _ _ (p.st F.keep) F.xinh F.relS fun a va h₁ t₁ st₁ ra hyp => ?_
      obtain ⟨hl, ψ⟩ := hyp
      have F₁ := F.st (tk := t₁) st₁
      have o₁ := o.st st₁
      refine wpAny_list_append_plain (s := { s with heap := h₁, toks := t₁ }) o₁.lst (fun h' hp hs => ?_) (by rw [List.size_toArray, o₁.rel.length, sizeLine_eq]; omega)
      have hp' : h'.PlainList b (vs ++ [va]).toArray := by simpa using hp
      obtain ⟨F', fk⟩ := F₁.own_change (tk := t₁) ho hs hp' (o₁.rel.append (l' := [a]) ⟨va, [], rfl, ra, rfl⟩)
      exact k .next .next _ (some b) h' t₁ F' (FKeep.trans (.of st₁) (.refl _ _) fk) (.refl _ _) rfl ψ

/-- x[i] = e, i from behind -/
theorem ExS_setOwn {x : Str} {l : List AV} {px sp pos : Pos} {i e : Expr} (ho : S.own = some (x, l))
    (h : Ev C S e fun a => Ev C S i fun j => ∃ k, j = .int k ∧ k < 0 ∧ -(l.length : Int) ≤ k ∧ -(2 ^ 60) ≤ k ∧ Ψ .next ⟨S.vs, some (x, l.set (k + l.length).toNat a)⟩)
    (hd : (x == ("__debug__" : Str)) = false := by decide) (hn : (x == ("__classdict__" : Str)) = false := by decide)
    (hs : swapsWith e (some (.Subscript (.Name x px) i sp)) pos.line C.env = pure false := by rfl) : ExS C S (.Assign [.Subscript (.Name x px) i sp] e pos) Ψ := by
  refine ⟨fun ok s₀ X₀ β s Q p F k => ?_⟩
  have hF := F.own
  rw [ho] at hF
  cases β with
  | none => exact hF.elim
  | some b =>
    obtain ⟨⟨vs, o⟩, hb⟩ := hF
    refine wpAny_Assign_Subscript (h.go ok _ s _ _ (p.st F.keep) F.xinh F.relS fun a va h₁ t₁ st₁ ra hb' => ?_) hs
    have F₁ := F.st (tk := t₁) st₁
    have o₁ := o.st st₁
    refine wpAny_Name (load_rd ok.kind o₁.rd ?_ hn) hd
    refine hb'.go ok _ _ _ _ ((p.st F.keep).st st₁) F₁.xinh F₁.relS fun j vj h₂ t₂ st₂ rj hyp => ?_
    obtain ⟨kk, rfl, h0, h1, h2, ψ⟩ := hyp
    obtain ⟨t, rfl⟩ := rj
    have F₂ := F₁.st (tk := t₂) st₂
    have o₂ := o₁.st st₂
    have hsz : vs.toArray.size = l.length := by rw [List.size_toArray, o₂.rel.length]
    refine setItem_neg (s := { s with heap := h₂, toks := t₂ }) o₂.lst h0 (by rw [hsz]; exact h1) (by omega) fun h' hp hs' => ?_
    have hp' : h'.PlainList b (vs.set (kk + l.length).toNat va).toArray := by
      rw [hsz] at hp
      simpa using hp
    have hrel : RelVs (b :: X₀) h₂ (l.set (kk + l.length).toNat a) (vs.set (kk + l.length).toNat va) := by
      have ra₂ := ra.st st₂
      have hl := o₂.rel.length
      refine RelVs.of (by rw [List.length_set, List.length_set, hl]) fun q aq vq h1 h2 => ?_
      rw [List.getElem?_set] at h1 h2
      by_cases hq : (kk + l.length).toNat = q
      · rw [if_pos hq] at h1 h2
        split at h1
        · split at h2
          · cases h1; cases h2; exact ra₂
          · cases h2
        · cases h1
      · rw [if_neg hq] at h1 h2
        obtain ⟨v', hv', rv'⟩ := o₂.rel.get q aq h1
        rw [h2] at hv'; cases hv'; exact rv'
    obtain ⟨F', fk⟩ := F₂.own_change (tk := t₂) ho hs' hp' hrel
    exact k .next .next _ (some b) h' t₂ F' (FKeep.trans (.of (st₁.trans st₂)) (.refl _ _) fk) (.refl _ _) rfl ψ

-- lists of ints compared
theorem ne_lists {A : Around} {s : Shared} {prog : Program} {w : World} {Q : Value → Shared → Prop} {E : Value → Shared → Prop} {a b : Addr} {va vb : List Value} {la lb : List Int} (hu : A.units < cLine) (ha : s.heap.IsList a va.toArray) (hb : s.heap.IsList b vb.toArray) (ia : IntsAre va la) (ib : IntsAre vb lb)
    (h : Q (.bool (decide (la ≠ lb))) s) : wpAny (model prog w) A (compareOp .NotEq (.ref a) (.ref b)) Q E s := by
  show wpAny _ _ (richCompare .NotEq (.ref a) (.ref b)) Q E s
  have l1 : va.length = la.length := ia.length
  have l2 : vb.length = lb.length := ib.length
  by_cases hl : va.length = vb.length
  · have hN := SeqAt.RcNeAt.lists (A := A) (s := s) (e := fun j => la.getD j 0 == lb.getD j 0) ha hb (by simpa using hl) hu (fun j h1 h2 => by
      have j1 : j < la.length := by rw [← l1]; simpa using h1
      have j2 : j < lb.length := by rw [← l2]; simpa using h2
      obtain ⟨t, ht⟩ := ia.get j la[j] (by simp)
      obtain ⟨u, hu'⟩ := ib.get j lb[j] (by simp)
      have e1 : va.toArray[j] = .int la[j] t := by
        have : va[j]? = some (va.toArray[j]) := by simp
        rw [ht] at this; exact (Option.some.inj this).symm
      have e2 : vb.toArray[j] = .int lb[j] u := by
        have : vb[j]? = some (vb.toArray[j]) := by simp
        rw [hu'] at this; exact (Option.some.inj this).symm
      rw [e1, e2]
      have g1 : la.getD j 0 = la[j] := by simp [j1]
      have g2 : lb.getD j 0 = lb[j] := by simp [j2]
      simp only [g1, g2]
      exact SeqAt.EqAt.int_int la[j] t lb[j] u)
    refine hN _ _ _ _ ?_
    have e : (!(List.range va.toArray.size).all fun j => la.getD j 0 == lb.getD j 0) = decide (la ≠ lb) := by
      rw [Bool.eq_iff_iff, Bool.not_eq_true', decide_eq_true_eq, List.all_eq_false]
      constructor
      · rintro ⟨j, hj, hne⟩ rfl; simp at hne
      · intro hne
        apply Classical.byContradiction
        intro hall
        apply hne
        apply List.ext_getElem
        · omega
        · intro j j1 j2
          apply Classical.byContradiction
          intro hj
          exact hall ⟨j, by simp [l1, j1], by simp [j1, j2, hj]⟩
    rw [e]; exact h
  · have hN := SeqAt.RcNeAt.lists_lengths (A := A) (s := s) ha hb (by simpa using hl) hu
    refine hN _ _ _ _ ?_
    have e : decide (la ≠ lb) = true := decide_eq_true fun e => hl (by rw [l1, l2, e])
    rw [e] at h; exact h
theorem Cmp_neL {la lb : List Int} (h : Φ (.bool (decide (la ≠ lb)))) : Cmp C .NotEq (.lst (IL la)) (.lst (IL lb)) Φ := by
  refine ⟨?_⟩
  rintro ok X s va vb Q E p xi ⟨a, vs, rfl, hax, hl, hr⟩ ⟨a', vs', rfl, hax', hl', hr'⟩ k
  exact ne_lists (by have := ok.room.units; omega) hl hl' hr.ints hr'.ints (k (.bool _) _ s.heap s.toks (StIn.refl _) rfl h)

/-- a statement whose ways meet -/
theorem ExS_cut {st : Stmt} (P : AS → Prop) (h1 : ExS C S st fun fl S' => match fl with | .next => ∃ S'', S'.le S'' ∧ P S'' | fl => Ψ fl S') (h2 : ∀ S'', P S'' → Ψ .next S'') : ExS C S st Ψ := by
  refine ⟨fun ok s₀ X₀ β s Q p F k => h1.go ok s₀ X₀ β s Q p F fun afl fl S' β' h' tk F' fk bv rf ψ => ?_⟩
  cases afl with
  | next => obtain ⟨S'', hle, hP⟩ := ψ; exact k .next fl S'' β' h' tk (F'.weak hle) fk bv rf (h2 S'' hP)
  | brk => exact k .brk fl S' β' h' tk F' fk bv rf ψ
  | cont => exact k .cont fl S' β' h' tk F' fk bv rf ψ
  | ret v => exact k (.ret v) fl S' β' h' tk F' fk bv rf ψ
/-- an expression whose ways meet -/
theorem Ev_cut {e : Expr} (P : AV → Prop) (h1 : Ev C S e P) (h2 : ∀ v, P v → Φ v) : Ev C S e Φ := h1.mono h2
/-- the nearest quotient, a half to the even one -/
def dn (a b : Int) : Int := a / b + if b < 2 * (a % b) + (a / b) % 2 then 1 else 0

theorem dn_spec {a b : Int} (hb : 0 < b) : -b ≤ 2 * (a - b * dn a b) ∧ 2 * (a - b * dn a b) ≤ b ∧ (2 * (a - b * dn a b) = b → dn a b % 2 = 0) ∧ (2 * (a - b * dn a b) = -b → dn a b % 2 = 0) := by
  have h1 := Int.mul_ediv_add_emod a b
  have h2 := Int.emod_nonneg a (show b ≠ 0 by omega)
  have h3 := Int.emod_lt_of_pos a hb
  unfold dn
  generalize a / b = q at *
  generalize a % b = r at *
  have h4 : q % 2 = 0 ∨ q % 2 = 1 := by omega
  split
  · rename_i h
    have e : b * (q + 1) = b * q + b := by rw [Int.mul_add, Int.mul_one]
    rw [e]
    generalize b * q = m at *
    refine ⟨by omega, by omega, fun _ => by omega, fun _ => by omega⟩
  · rename_i h
    rw [Int.add_zero]
    generalize b * q = m at *
    refine ⟨by omega, by omega, fun _ => by omega, fun _ => by omega⟩

theorem dn_uniq {a b q : Int} (hb : 0 < b) (h1 : -b ≤ 2 * (a - b * q)) (h2 : 2 * (a - b * q) ≤ b) (h3 : 2 * (a - b * q) = b → q % 2 = 0) (h4 : 2 * (a - b * q) = -b → q % 2 = 0) : dn a b = q := by
  have s := dn_spec (a := a) hb
  generalize dn a b = p at *
  obtain ⟨s1, s2, s3, s4⟩ := s
  have hd : p = q ∨ p ≤ q - 1 ∨ q + 1 ≤ p := by omega
  rcases hd with h | h | h
  · exact h
  · have e : b * p ≤ b * (q - 1) := Int.mul_le_mul_of_nonneg_left h (by omega)
    rw [Int.mul_sub, Int.mul_one] at e
    by_cases hq : p = q - 1
    · subst hq
      have e' : b * (q - 1) = b * q - b := by rw [Int.mul_sub, Int.mul_one]
      rw [e'] at s1 s2 s3 s4
      generalize b * q = m at *
      omega
    · have e2 : b * p ≤ b * (q - 2) := Int.mul_le_mul_of_nonneg_left (by omega) (by omega)
      rw [Int.mul_sub] at e2
      generalize b * q = m at *
      generalize b * p = n at *
      omega
  · have e : b * (q + 1) ≤ b * p := Int.mul_le_mul_of_nonneg_left h (by omega)
    rw [Int.mul_add, Int.mul_one] at e
    by_cases hq : p = q + 1
    · subst hq
      have e' : b * (q + 1) = b * q + b := by rw [Int.mul_add, Int.mul_one]
      rw [e'] at s1 s2 s3 s4
      generalize b * q = m at *
      omega
    · have e2 : b * (q + 2) ≤ b * p := Int.mul_le_mul_of_nonneg_left (by omega) (by omega)
      rw [Int.mul_add] at e2
      generalize b * q = m at *
      generalize b * p = n at *
      omega

theorem dn_neg {a b : Int} (hb : 0 < b) : dn (-a) b = -dn a b := by
  obtain ⟨s1, s2, s3, s4⟩ := dn_spec (a := a) hb
  refine dn_uniq hb ?_ ?_ ?_ ?_ <;> rw [Int.mul_neg] <;> omega

theorem dn_zero {b : Int} (hb : 0 < b) : dn 0 b = 0 := by
  refine dn_uniq hb ?_ ?_ ?_ ?_ <;> simp <;> omega
theorem dn_mul {a b : Int} (hb : 0 < b) : dn (b * a) b = a := by
  refine dn_uniq hb ?_ ?_ ?_ ?_ <;> omega

/-- what _div_nearest gives, as the walk tells it -/
theorem dn_walk {a b : Int} (hb : 0 < b) : (a.fdiv b + if decide (b < 2 * a.fmod b + Builtin.bitAnd (a.fdiv b) 1) = true then (1 : Int) else 0) = dn a b := by
  unfold dn
  rw [Int.fdiv_eq_ediv_of_nonneg _ (by omega), Int.fmod_eq_emod_of_nonneg _ (by omega), bitAnd_m1]
  simp
theorem dn_walkS {a : Int} {k : Nat} : (a.fdiv (2 ^ k) + if decide ((2 : Int) ^ k < 2 * Builtin.bitAnd a (2 ^ k - 1) + Builtin.bitAnd (a.fdiv (2 ^ k)) 1) = true then (1 : Int) else 0) = dn a (2 ^ k) := by
  have h : (0 : Int) < 2 ^ k := Int.pow_pos (by decide)
  rw [kbt_maskF]; exact dn_walk h

-- sizes
open Builtin.Int (intBits)
theorem bits_lt {x : Int} {m : Nat} (h : intBits x ≤ m) : x.natAbs < 2 ^ m := intBits_le_iff.mp h
theorem lt_bits {x : Int} {m : Nat} (h : x.natAbs < 2 ^ m) : intBits x ≤ m := intBits_le_iff.mpr h

-- slices
theorem pick_plain {α : Type} (l : List α) (lo hi : Option Int) : pickL l lo hi none = (l.drop (lo.elim 0 (clipAt l.length))).take (hi.elim l.length (clipAt l.length) - lo.elim 0 (clipAt l.length)) := by
  unfold pickL
  rw [sliceBounds_plain]
  simp only [sliceRange_one]
  have := pick_run l.toArray (lo.elim 0 (clipAt l.length)) (hi.elim l.length (clipAt l.length) - lo.elim 0 (clipAt l.length))
  simpa using this
theorem pick_upto {α : Type} (l : List α) (b : Nat) : pickL l none (some (b : Int)) none = l.take b := by
  rw [pick_plain]; simp only [Option.elim, clipAt_nat, List.drop_zero, Nat.sub_zero]
  rw [List.take_eq_take_iff]; omega
theorem pick_from {α : Type} (l : List α) (a : Nat) : pickL l (some (a : Int)) none none = l.drop a := by
  rw [pick_plain]; simp only [Option.elim, clipAt_nat]
  by_cases h : a ≤ l.length
  · rw [Nat.min_eq_left h, List.take_of_length_le (by simp)]
  · rw [Nat.min_eq_right (by omega), List.drop_of_length_le (by omega), List.drop_of_length_le (by omega)]; simp
theorem pick_uptoI {α : Type} (l : List α) {b : Int} (h : 0 ≤ b) : pickL l none (some b) none = l.take b.toNat := by
  have := pick_upto l b.toNat; rwa [Int.toNat_of_nonneg h] at this
theorem pick_fromI {α : Type} (l : List α) {b : Int} (h : 0 ≤ b) : pickL l (some b) none none = l.drop b.toNat := by
  have := pick_from l b.toNat; rwa [Int.toNat_of_nonneg h] at this
theorem IL_get {l : List Int} {i : Nat} {av : AV} (h : (IL l)[i]? = some av) : ∃ n, l[i]? = some n ∧ av = .int n := by
  rw [List.getElem?_map] at h
  cases hn : l[i]? with
  | none => rw [hn] at h; cases h
  | some n => rw [hn] at h; cases h; exact ⟨n, rfl, rfl⟩
theorem rngL_get {a c : Int} {n i : Nat} {av : AV} (h : (rngL a c n)[i]? = some av) : i < n ∧ av = .int (a + i * c) := by
  unfold rngL at h
  rw [List.getElem?_map] at h
  by_cases hi : i < n
  · rw [List.getElem?_range hi] at h; cases h; exact ⟨hi, rfl⟩
  · rw [List.getElem?_eq_none (by simp; omega)] at h; cases h
theorem rngL_len {a c : Int} {n : Nat} : (rngL a c n).length = n := by simp [rngL]
theorem abs_if (x : Int) : (if x < 0 then -x else x) = (x.natAbs : Int) := by split <;> omega
set_option linter.unusedVariables false
local macro_rules | `(tactic| walk_at "mw") => `(tactic| first
  | refine ExS_aug rfl ?_ ⟨.inr ⟨rfl, rfl⟩, by first | exact trivial | exact rfl⟩)
local macro_rules | `(tactic| walk_at "cap") => `(tactic| repeat (first | exact List.forall_mem_nil _ | refine List.forall_mem_cons.mpr ⟨⟨rfl, rfl, rfl, rfl, rfl⟩, ?_⟩))
theorem ifB {c : Bool} {P Q : Prop} (h1 : c = true → P) (h2 : c = false → Q) : if c = true then P else Q := by cases c <;> simp_all
theorem rng_up (a b : Int) : Builtin.Range.rangeSize a b 1 = ((b - a).toNat : Int) := by
  unfold Builtin.Range.rangeSize; simp; omega
theorem Items_up (a b : Int) : Items (.rng a b 1) (IL ((List.range (b - a).toNat).map fun i : Nat => a + i)) := by
  have h := Items.rng a b 1 _ (rng_up a b)
  rw [show rngL a 1 (b - a).toNat = IL ((List.range (b - a).toNat).map fun i : Nat => a + i) from by simp [rngL]] at h
  exact h
theorem filter_nil {α : Type} {p : α → Bool} {l : List α} : l.filter p = [] ↔ ∀ x ∈ l, p x = false := by simp
set_option linter.unusedVariables false
-- the nearest whole root, and Newton's way to it
/-- r is the nearest whole root of n -/
structure Rt (n r : Int) : Prop where
  pos : 0 < r
  lo : r * (r - 1) < n
  hi : n ≤ r * (r + 1)
theorem Rt.uniq {n r q : Int} (h : Rt n r) (h' : Rt n q) : r = q := by
  have key : ∀ {a b : Int}, Rt n a → Rt n b → ¬ a < b := by
    intro a b h h' hl
    have h1 := h.hi
    have h2 := h'.lo
    have h3 : a * (a + 1) ≤ (b - 1) * b := Int.mul_le_mul (by omega) (by omega) (by have := h.pos; omega) (by have := h.pos; omega)
    rw [Int.mul_comm (b - 1)] at h3
    omega
  have := key h h'
  have := key h' h
  omega
/-- Newton's step -/
def ns1 (n a : Int) : Int := (a - (-n) / a) / 2
theorem ns1_c {n a : Int} (ha : 0 < a) (hn : 0 < n) : ∃ c : Int, ns1 n a = (a + c) / 2 ∧ n ≤ a * c ∧ a * (c - 1) < n ∧ 0 < c := by
  refine ⟨-((-n) / a), by unfold ns1; rw [Int.sub_eq_add_neg], ?_, ?_, ?_⟩
  · have := Int.mul_ediv_add_emod (-n) a
    have := Int.emod_nonneg (-n) (show a ≠ 0 by omega)
    rw [Int.mul_neg]; omega
  · have := Int.mul_ediv_add_emod (-n) a
    have := Int.emod_lt_of_pos (-n) ha
    rw [Int.mul_sub, Int.mul_neg, Int.mul_one]; omega
  · have : (-n) / a < 0 := Int.ediv_neg_of_neg_of_pos (by omega) ha
    omega
theorem ns1_pos {n a : Int} (ha : 0 < a) (hn : 0 < n) : 0 < ns1 n a := by
  obtain ⟨c, h1, _, _, h4⟩ := ns1_c ha hn
  rw [h1]; omega
theorem ns1_hi {n a : Int} (ha : 0 < a) (hn : 0 < n) : n ≤ ns1 n a * (ns1 n a + 1) := by
  obtain ⟨c, h1, h2, _, h4⟩ := ns1_c ha hn
  rw [h1]
  rcases Int.emod_two_eq (a + c) with h | h
  · obtain ⟨k, hk⟩ : ∃ k, a + c = 2 * k := ⟨(a + c) / 2, by omega⟩
    rw [show (a + c) / 2 = k by omega]
    have : 0 ≤ (a - c) * (a - c) := by
      rcases Int.le_total 0 (a - c) with h | h
      · exact Int.mul_nonneg h h
      · exact Int.mul_nonneg_of_nonpos_of_nonpos h h
    have e : 4 * (k * k) = (a - c) * (a - c) + 4 * (a * c) := by
      have : c = 2 * k - a := by omega
      subst this; grind
    have hk0 : 0 ≤ k := by omega
    rw [Int.mul_add, Int.mul_one]
    generalize k * k = x at *; generalize a * c = y at *; generalize (a - c) * (a - c) = z at *
    omega
  · obtain ⟨k, hk⟩ : ∃ k, a + c = 2 * k + 1 := ⟨(a + c) / 2, by omega⟩
    rw [show (a + c) / 2 = k by omega]
    have : 1 ≤ (a - c) * (a - c) := by
      have hne : a - c ≠ 0 := by omega
      rcases Int.lt_or_gt_of_ne hne with h | h
      · have := Int.mul_pos_of_neg_of_neg h h; omega
      · have := Int.mul_pos h h; omega
    have e : 4 * (k * (k + 1)) + 1 = (a - c) * (a - c) + 4 * (a * c) := by
      have : c = 2 * k + 1 - a := by omega
      subst this; grind
    generalize k * (k + 1) = x at *; generalize a * c = y at *; generalize (a - c) * (a - c) = z at *
    omega
theorem ns1_fix {n a : Int} (ha : 0 < a) (hn : 0 < n) (h : ns1 n a = a) : Rt n a := by
  obtain ⟨c, h1, h2, h3, h4⟩ := ns1_c ha hn
  rw [h1] at h
  have hc : c = a ∨ c = a + 1 := by omega
  rcases hc with rfl | rfl
  · exact ⟨ha, h3, by rw [Int.mul_add]; omega⟩
  · refine ⟨ha, ?_, h2⟩
    have : a * (a - 1) ≤ a * (a + 1 - 1) := Int.mul_le_mul_of_nonneg_left (by omega) (by omega)
    omega
theorem ns1_le {n a : Int} (ha : 0 < a) (hn : 0 < n) (h : n ≤ a * (a + 1)) : ns1 n a ≤ a := by
  obtain ⟨c, h1, h2, h3, h4⟩ := ns1_c ha hn
  rw [h1]
  have : c - 1 < a + 1 := Int.lt_of_mul_lt_mul_left (Int.lt_of_lt_of_le h3 h) (by omega)
  omega
set_option linter.unusedVariables false
theorem lt_int {prog : Program} {w : World} {A : Around} {E : Value → Shared → Prop} {s : Shared} {Q : Value → Shared → Prop} {a b : Int} {t u : Tok} (h : Q (.bool (decide (a < b))) s) : wpAny (model prog w) A (richCompare .Lt (.int a t) (.int b u)) Q E s :=
  CmpOf.ints_lt (prog := prog) (w := w) (A := A) (P := fun i v => (i = 0 ∧ v = .int a t) ∨ (i ≠ 0 ∧ v = .int b u)) (fun i => if i = 0 then a else b) (fun i v hv => by
    rcases hv with ⟨h, rfl⟩ | ⟨h, rfl⟩
    · exact ⟨t, by simp [h]⟩
    · exact ⟨u, by simp [h]⟩) 0 1 _ _ s Q E (.inl ⟨rfl, rfl⟩) (.inr ⟨by decide, rfl⟩) (by simpa using h)

/-- the order of triples -/
def lt3 (x y : Int × Int × Int) : Bool := if x.1 = y.1 then (if x.2.1 = y.2.1 then decide (x.2.2 < y.2.2) else decide (x.2.1 < y.2.1)) else decide (x.1 < y.1)

theorem lt_trip {prog : Program} {w : World} {A : Around} {E : Value → Shared → Prop} {s : Shared} {Q : Value → Shared → Prop} {ta tb : Addr} {x0 x1 x2 y0 y1 y2 : Int} {t0 t1 t2 u0 u1 u2 : Tok} (hu : A.units < cLine)
    (ha : s.heap.IsTuple ta #[.int x0 t0, .int x1 t1, .int x2 t2]) (hb : s.heap.IsTuple tb #[.int y0 u0, .int y1 u1, .int y2 u2])
    (h : Q (.bool (lt3 (x0, x1, x2) (y0, y1, y2))) s) : wpAny (model prog w) A (richCompare .Lt (.ref ta) (.ref tb)) Q E s := by
  obtain ⟨oa, hoa, hca, na, hda⟩ := ha
  obtain ⟨ob, hob, hcb, nb, hdb⟩ := hb
  have hTa : s.TypeIs (.ref ta) "tuple" := ⟨_, hoa, hca⟩
  have hTb : s.TypeIs (.ref tb) "tuple" := ⟨_, hob, hcb⟩
  refine wpAny_richCompare_same_room hTa hTb F.slot_tuple_lt (wpAny_call_entry F.slot_tuple_lt hTa F.entry_tuple_lt ?_ (F.args_tuple_lt_2 _ _)) hu
  show wpAny _ _ (isInstance (.ref tb) (.type "tuple") >>= _) _ _ s
  refine wpAny_bind (wpAny_isInstance hTb isSubtype_tuple_tuple ?_)
  simp only [Bool.not_true, Bool.false_eq_true, if_false]
  refine wpAny_bind (wpAny_tupleItemsOf hoa hda ?_)
  refine wpAny_bind (wpAny_tupleItemsOf hob hdb ?_)
  simp only [List.zip_cons_cons, List.zip_nil_right, List.forIn_cons, List.forIn_nil]
  refine wpAny_bind (wpAny_bind (wpAny_bind (wpAny_eqBool_int ?_)))
  by_cases h0 : x0 = y0
  · subst h0
    simp only [BEq.rfl, Bool.not_true, Bool.false_eq_true, if_false]
    refine wpAny_pure (wpAny_bind (wpAny_bind (wpAny_eqBool_int ?_)))
    by_cases h1 : x1 = y1
    · subst h1
      simp only [BEq.rfl, Bool.not_true, Bool.false_eq_true, if_false]
      refine wpAny_pure (wpAny_bind (wpAny_bind (wpAny_eqBool_int ?_)))
      by_cases h2 : x2 = y2
      · subst h2
        simp only [BEq.rfl, Bool.not_true, Bool.false_eq_true, if_false]
        refine wpAny_pure (wpAny_pure ?_)
        refine wpAny_pure ⟨.bool false, rfl, (fun q => by cases q), ?_⟩
        have : lt3 (x0, x1, x2) (x0, x1, x2) = false := by simp [lt3]
        rw [this] at h; exact h
      · rw [if_pos (by simp [h2])]
        refine wpAny_bind (wpAny_rule (wpAny_bind (lt_int (wpAny_bind (wpAny_pure (wpAny_pure ?_))))))
        refine wpAny_pure (wpAny_pure ⟨_, rfl, (fun q => by cases q), ?_⟩)
        simpa [lt3, h2] using h
    · rw [if_pos (by simp [h1])]
      refine wpAny_bind (wpAny_rule (wpAny_bind (lt_int (wpAny_bind (wpAny_pure (wpAny_pure ?_))))))
      refine wpAny_pure (wpAny_pure ⟨_, rfl, (fun q => by cases q), ?_⟩)
      simpa [lt3, h1] using h
  · rw [if_pos (by simp [h0])]
    refine wpAny_bind (wpAny_rule (wpAny_bind (lt_int (wpAny_bind (wpAny_pure (wpAny_pure ?_))))))
    refine wpAny_pure (wpAny_pure ⟨_, rfl, (fun q => by cases q), ?_⟩)
    simpa [lt3, h0] using h

theorem min_trip {prog : Program} {w : World} {A : Around} {E : Value → Shared → Prop} {s : Shared} {Q : Value → Shared → Prop} {l ta tb : Addr} {x0 x1 x2 y0 y1 y2 : Int} {t0 t1 t2 u0 u1 u2 : Tok} (hh : A.handled = none) (hu : A.in1.units < cLine)
    (hl : s.heap.IsList l #[.ref ta, .ref tb]) (ha : s.heap.IsTuple ta #[.int x0 t0, .int x1 t1, .int x2 t2]) (hb : s.heap.IsTuple tb #[.int y0 u0, .int y1 u1, .int y2 u2])
    (h : ∀ h' tk, StIn s.heap h' → Q (if lt3 (y0, y1, y2) (x0, x1, x2) then .ref tb else .ref ta) { s with heap := h', toks := tk }) : wpAny (model prog w) A (call (.builtin "min") [.ref l]) Q E s := by
  have hname : (toString "min" ++ toString ".loop" : String) = "min.loop" := by decide
  refine call_function_tree F.kind_min F.plain_min F.entry_min (F.args_min1 _) ?_
  show wpAny _ A.in1 (Builtin.Builtins.bindParams "min" ["key", "default"] 0 ⟨[], []⟩ >>= _) _ _ s
  refine wpAny_bind (wpAny_of_eq (show Builtin.Builtins.bindParams "min" ["key", "default"] 0 ⟨[], []⟩ = pure [none, none] from rfl) ?_)
  refine wpAny_bind (wpAny_pure ?_)
  refine wpAny_bind (wpAny_pyIter_list hl ?_)
  obtain ⟨ol, hol, hcl⟩ := id hl
  have hll : l < s.heap.objs.size := Heap.lt_size hol
  generalize hH1 : s.heap.push { cls := .type "list_iterator", data := .fields #[.ref l, .int 0 0] } = H1
  generalize hI : s.heap.objs.size = I at *
  have hS1 : H1.objs.size = I + 1 := by rw [← hH1, Heap.size_push, hI]
  have st1 : StIn s.heap H1 := by rw [← hH1]; exact StIn.push _ _
  refine wpAny_bind (wpAny_newObj_type ?_)
  rw [hname]
  have W := Walks.list (prog := prog) (w := w) (A := A.in1) hh I l (Nat.ne_of_lt hll) #[.ref ta, .ref tb]
  generalize hH2 : H1.push { cls := .type "list", dict := none, data := .seq ([] : List Value).toArray } = H2
  have st2 : StIn s.heap H2 := st1.trans (by rw [← hH2]; exact StIn.push _ _)
  have hSg : H2.get? (I + 1) = some { cls := .type "list", dict := none, data := .seq ([] : List Value).toArray } := by rw [← hH2, ← hS1]; exact Heap.get?_push_size _ rfl
  have hst : H2.IsListIter I l 0 ∧ H2.IsList l #[.ref ta, .ref tb] := by
    refine ⟨⟨{ cls := .type "list_iterator", data := .fields #[.ref l, .int 0 0] }, ?_, rfl, rfl⟩, hl.at fun o e => st2 _ _ e⟩
    rw [← hH2]; refine Heap.get?_push_of_some _ ?_
    rw [← hH1, ← hI]; exact Heap.get?_push_size _ rfl
  have hS : H1.objs.size = I + 1 := hS1
  refine wpAny_pure ⟨plainId_quiet F.plain_min_loop _, ?_⟩
  show codeAny _ A (.builtin "min.loop" ⟨[.ref I, .none, .ref H1.objs.size], []⟩) _ _
  rw [hS]
  have hSI : I + 1 ∉ [I] := by simp
  have hSf : I + 1 ≠ l := Nat.ne_of_gt (Nat.lt_succ_of_lt hll)
  have old : ∀ {h₁ h₂ : Heap}, StIn s.heap h₁ → (∀ b o, b ∉ [I] → h₁.get? b = some o → h₂.get? b = some o) → StIn s.heap h₂ := by
    intro h₁ h₂ st hk b o e
    refine hk b o (fun hm => ?_) (st b o e)
    have := Heap.lt_size e
    rw [List.mem_singleton.mp hm, hI] at this
    exact Nat.lt_irrefl _ this
  have old2 : ∀ {h₁ : Heap} {f : Obj → Obj}, StIn s.heap h₁ → StIn s.heap (h₁.update (I + 1) f) := by
    intro h₁ f st b o e
    refine (Heap.get?_update_other _ _ ?_).trans (st b o e)
    have := Heap.lt_size e
    rw [hI] at this
    exact Nat.ne_of_gt (Nat.lt_succ_of_lt this)
  have frm : ∀ {h₁ : Heap} {f : Obj → Obj} {i : Nat}, (h₁.IsListIter I l i ∧ h₁.IsList l #[.ref ta, .ref tb]) → ((h₁.update (I + 1) f).IsListIter I l i ∧ (h₁.update (I + 1) f).IsList l #[.ref ta, .ref tb]) := by
    intro h₁ f i st
    exact W.frame _ _ _ st fun b hbf o e => (Heap.get?_update_other _ _ (by
      rcases List.mem_cons.mp hbf with rfl | hbf
      · exact Nat.succ_ne_self _
      · obtain rfl := List.mem_singleton.mp hbf; exact hSf)).trans e
  -- the first item
  refine codeAny_builtin F.entry_min_loop ?_
  rw [Around.under_plainId F.plain_min_loop _]
  show wpAny _ A.in1 (seqItems? (.ref (I + 1)) >>= _) _ _ _
  refine wpAny_bind (wpAny_seqItems hSg rfl ?_)
  show wpAny _ A.in1 (tryCatch (pyNext (.ref I)) _ >>= _) _ _ _
  refine wpAny_bind (wpAny_tryCatch (W.item 0 _ _ _ (by simp) hst fun v h₁ tk₁ hP₁ hst₁ hk₁ => ?_))
  obtain rfl : v = .ref ta := by simpa using hP₁.symm
  have hS₁ := hk₁ _ _ hSI hSg
  have o₁ := old st2 hk₁
  show wpAny _ A.in1 (updateSeq (I + 1) (fun _ => #[.ref ta, .ref ta]) >>= _) _ _ _
  refine wpAny_bind (wpAny_updateSeq hS₁ rfl ?_)
  rw [hname]
  refine wpAny_pure ⟨plainId_quiet F.plain_min_loop _, ?_⟩
  -- the second
  have hS₂ := Heap.get?_update_self (fun o => o.mapSeq fun _ => #[.ref ta, .ref ta]) hS₁ rfl
  refine codeAny_builtin F.entry_min_loop ?_
  rw [Around.under_plainId F.plain_min_loop _]
  show wpAny _ A.in1 (seqItems? (.ref (I + 1)) >>= _) _ _ _
  refine wpAny_bind (wpAny_seqItems hS₂ rfl ?_)
  show wpAny _ A.in1 (tryCatch (pyNext (.ref I)) _ >>= _) _ _ _
  refine wpAny_bind (wpAny_tryCatch (W.item 1 _ _ _ (by simp) (frm hst₁) fun v h₃ tk₃ hP₃ hst₃ hk₃ => ?_))
  obtain rfl : v = .ref tb := by simpa using hP₃.symm
  have o₃ := old (old2 o₁) hk₃
  have hS₃ := hk₃ _ _ hSI hS₂
  show wpAny _ A.in1 (tryCatch (holding [.ref tb, .ref tb] (richCompare .Lt (.ref tb) (.ref ta) >>= _)) _ >>= _) _ _ _
  refine wpAny_bind (wpAny_tryCatch (wpAny_holding (wpAny_bind (lt_trip hu (hb.at fun o e => o₃ _ _ e) (ha.at fun o e => o₃ _ _ e) ?_))))
  refine wpAny_bind (wpAny_holding (wpAny_truthy_bool ?_))
  refine wpAny_bind (wpAny_letGo (wpAny_pure ?_))
  have last : ∀ {h₄ : Heap} {tk₄ : Nat} {vb : Value} {c : Nat}, StIn s.heap h₄ → h₄.get? (I + 1) = some { cls := .type "list", dict := none, data := .seq #[vb, vb] c, slots := #[] } → (h₄.IsListIter I l 2 ∧ h₄.IsList l #[.ref ta, .ref tb]) →
      vb = (if lt3 (y0, y1, y2) (x0, x1, x2) = true then .ref tb else .ref ta) → codeAny (model prog w) A (.builtin "min.loop" ⟨[.ref I, .none, .ref (I + 1)], []⟩) (fun r s' => match r with
        | Except.ok (Flow.ret v) => Q v s'
        | Except.ok a => False
        | Except.error e => E e s') { s with heap := h₄, toks := tk₄ } := by
    intro h₄ tk₄ vb c o₄ hS₄ hst₄ hvb
    refine codeAny_builtin F.entry_min_loop ?_
    rw [Around.under_plainId F.plain_min_loop _]
    show wpAny _ A.in1 (seqItems? (.ref (I + 1)) >>= _) _ _ _
    refine wpAny_bind (wpAny_seqItems hS₄ rfl ?_)
    show wpAny _ A.in1 (tryCatch (pyNext (.ref I)) _ >>= _) _ _ _
    refine wpAny_bind (wpAny_tryCatch (W.done _ _ _ hst₄ fun h₅ tk₅ hk₅ => ?_))
    have hS₅ := hk₅ _ _ hSI hS₄
    show wpAny _ A.in1 (updateSeq (I + 1) (fun _ => #[]) >>= _) _ _ _
    refine wpAny_bind ?_
    refine wpAny_updateSeq hS₅ rfl (wpAny_bind (wpAny_letGo (wpAny_pure ?_)))
    show Q vb _
    rw [hvb]
    exact h _ _ (old2 (old o₄ hk₅))
  cases hb' : lt3 (y0, y1, y2) (x0, x1, x2) with
  | true =>
    simp only [if_true]
    refine wpAny_bind ?_
    refine wpAny_updateSeq hS₃ rfl (wpAny_bind (wpAny_letGo ?_))
    rw [hname]
    refine wpAny_pure ⟨plainId_quiet F.plain_min_loop _, ?_⟩
    exact last (old2 o₃) (Heap.get?_update_self _ hS₃ rfl) (frm hst₃) (by rw [hb']; rfl)
  | false =>
    simp only [Bool.false_eq_true, if_false]
    refine wpAny_bind (wpAny_letGo ?_)
    rw [hname]
    refine wpAny_pure ⟨plainId_quiet F.plain_min_loop _, ?_⟩
    exact last o₃ hS₃ hst₃ (by rw [hb']; rfl)

section
variable {C : CX} {S : AS} {Φ : AV → Prop}
theorem RelVs.three {X : List Addr} {h : Heap} {a b c : Int} {vs : List Value} (r : RelVs X h (IL [a, b, c]) vs) : ∃ t u v, vs = [.int a t, .int b u, .int c v] := by
  obtain ⟨v, r1, rfl, ⟨t, rfl⟩, ⟨v', r2, rfl, ⟨u, rfl⟩, ⟨v'', r3, rfl, ⟨w, rfl⟩, rfl⟩⟩⟩ := r
  exact ⟨t, u, w, rfl⟩
theorem CallB_minT {x y : Int × Int × Int} (h : Φ (.tup (IL (if lt3 y x then [y.1, y.2.1, y.2.2] else [x.1, x.2.1, x.2.2])))) : CallB C (.builtin "min") [.lst [.tup (IL [x.1, x.2.1, x.2.2]), .tup (IL [y.1, y.2.1, y.2.2])]] Φ := by
  refine ⟨?_⟩
  rintro ok X s vs Q E _ _ ⟨v, r, rfl, ⟨l, vs', rfl, hx, hl, hr⟩, rfl⟩ k
  obtain ⟨v0, r0, rfl, ⟨ta, vsa, rfl, hta, hra⟩, ⟨v1, r1, rfl, ⟨tb, vsb, rfl, htb, hrb⟩, rfl⟩⟩ := hr
  obtain ⟨t0, t1, t2, rfl⟩ := RelVs.three hra
  obtain ⟨u0, u1, u2, rfl⟩ := RelVs.three hrb
  refine min_trip ok.room.hh (by have := ok.room.units; show C.A.units + 1 < cLine; omega) hl hta htb fun h' tk st => ?_
  cases hb : lt3 y x with
  | true =>
    rw [hb] at h
    exact k (.tup (IL [y.1, y.2.1, y.2.2])) _ h' tk st ⟨tb, _, rfl, htb.at fun o e => st _ _ e, hrb.st st⟩ h
  | false =>
    rw [hb] at h
    exact k (.tup (IL [x.1, x.2.1, x.2.2])) _ h' tk st ⟨ta, _, rfl, hta.at fun o e => st _ _ e, hra.st st⟩ h
theorem CallB_typeI {a : Int} (h : Φ (.ty "int")) : CallB C (.type "type") [.int a] Φ := by
  refine ⟨?_⟩
  rintro ok X s vs Q E _ _ ⟨v, r, rfl, ⟨t, rfl⟩, rfl⟩ k
  exact call_type_of (typeIs_int s a t) (by decide) (k (.ty "int") _ s.heap s.toks (StIn.refl _) rfl h)
theorem Cmp_isnotT {X Y : String} (h : Φ (.bool (!(Value.type X == Value.type Y)))) : Cmp C .IsNot (.ty X) (.ty Y) Φ := by
  refine ⟨?_⟩
  rintro ok Z s va vb Q E _ _ rfl rfl k
  exact isnot_type (k (.bool _) _ s.heap s.toks (StIn.refl _) rfl h)
theorem CallB_strI {a : Int} (ha : a.natAbs.log2 < 1920) (h : Φ (.str (toString a))) : CallB C (.type "str") [.int a] Φ := by
  refine ⟨?_⟩
  rintro ok X s vs Q E _ _ ⟨v, r, rfl, ⟨t, rfl⟩, rfl⟩ k
  exact PySem.P.str_of_int ha (k (.str _) _ s.heap _ (StIn.refl _) ⟨_, rfl⟩ h)
theorem CallB_lenS {x : Str} (hx : x.length < 2 ^ 62) (h : Φ (.int x.length)) : CallB C (.builtin "len") [.str x] Φ := by
  refine ⟨?_⟩
  rintro ok X s vs Q E _ _ ⟨v, r, rfl, ⟨t, rfl⟩, rfl⟩ k
  exact PySem.P.len_str (by omega) (k (.int _) _ s.heap _ (StIn.refl _) ⟨_, rfl⟩ h)
theorem Ev_bitlen {x : Str} {px apos pos : Pos} {a : Int} (hx : S.vs.lookup x = some (.int a)) (h : Φ (.int (intBits a : Nat)))
    (hbase : attributeBase (.Name x px) "bit_length" C.env (eval (.Name x px) C.env) = eval (.Name x px) C.env := by rfl) (hline : (apos.endLine == pos.line) = true := by rfl)
    (hd : (x == ("__debug__" : Str)) = false := by decide) (hn : (x == ("__classdict__" : Str)) = false := by decide) : Ev C S (.Call (.Attribute (.Name x px) "bit_length" apos) [] [] pos) Φ := by
  refine ⟨fun ok X s Q E p xi rs k => ?_⟩
  obtain ⟨v, hr, ⟨t, rfl⟩⟩ := rs.1 x _ hx
  refine wpAny_Call_method0_late hbase hline (wpAny_Name (load_rd ok.kind hr ⟨"int", "int.bit_length", F.plainAttrs_int, F.slot_int_bit_length, F.type_int_bit_length, typeIs_int _ _ _, (fun _ e => by cases e), ?_⟩ hn) hd)
  exact callWith_method0 (env := C.env) (call_int_bit_length (k (.int _) _ s.heap _ (StIn.refl _) ⟨_, rfl⟩ h))
end
set_option maxHeartbeats 4000000
set_option linter.unusedVariables false
section
variable {C : CX} {S : AS} {Φ : AV → Prop}
theorem lookup_capsA {x y : Str} {av aw : AV} {caps : AM} (e : ((x, aw) :: caps).lookup y = some av) : (y = x ∧ av = aw) ∨ ((y, av) ∈ caps) := by
  rw [List.lookup_cons] at e
  cases hb : y == x with
  | true => rw [hb] at e; cases e; exact .inl ⟨beq_iff_eq.mp hb, rfl⟩
  | false => rw [hb] at e; exact .inr (mem_of_lookup e)

/-- a list comprehension without tests, of any values -/
theorem Ev_compT {elt iter : Expr} {x : Str} {px pos : Pos} {scope : Scope} {cl : List (Str × Addr)} (caps : AM) (avs : List AV)
    (hclos : closureFor scope C.env = pure cl)
    (h : Ev C S iter fun av => ∃ xs : List AV, Items av xs ∧ xs.length ≤ 2 ^ 20 ∧ avs.length = xs.length ∧ Caps C S scope cl x caps ∧
      (∀ (i : Nat) aw, xs[i]? = some aw → ∀ a, Ev (C.comp scope cl a) ⟨(x, aw) :: caps, none⟩ elt fun v => avs[i]? = some v) ∧ Φ (.lst avs))
    (hcell : ∀ y ∈ scope.names, y.2 ≠ .cell := by decide) (hkind : scope.kind = .function := by rfl)
    (hnames : ∀ y ∈ scope.names, y.2 = .local → scope.names.lookup y.1 = some .local := by decide) (hx : scope.names.lookup x = some .local := by rfl)
    (hs : ∀ x, foldedSetIterable iter C.env x = pure x := by intro _; rfl) : Ev C S (.ListComp elt [⟨.Name x px, iter, [], 0⟩] scope pos) Φ := by
  refine ⟨fun ok X s Q E p xi rs k => ?_⟩
  rw [eval_ListComp]
  refine wpAny_comprehension_free (use := none) rfl hs hclos hkind hnames (h.go ok X s _ E p xi rs fun av v h₁ t₁ st₁ rv hyp => ?_)
  obtain ⟨xs, hit, hlen, hal, hcap, helt, φ⟩ := hyp
  refine iter_go ok hit rv fun fp P St o itr hfree => ?_
  generalize hJ : h₁.objs.size = J at itr
  have stH : StIn s.heap (h₁.push o) := st₁.trans (StIn.push _ _)
  generalize hH0 : h₁.push o = H0 at *
  have hH0s : H0.objs.size = J + 1 := by rw [← hH0, Heap.size_push, hJ]
  refine wpAny_newObj_type (wpAny_newFunctionEnv hcell (by intro y hy; simp at hy) (fun h₂ hns₂ hsb₂ => ?_) hkind)
  dsimp only at hns₂ hsb₂ ⊢
  generalize hH1 : H0.push { cls := .type "list", dict := none, data := .seq ([] : List Value).toArray } = H1 at *
  have hH1s : H1.objs.size = J + 2 := by rw [← hH1, Heap.size_push, hH0s]
  rw [hH0s]
  rw [hH1s] at hns₂ hsb₂ ⊢
  have low3 : ∀ b : Nat, b < J → b ≠ J + 2 ∧ b ≠ J + 1 ∧ b ≠ J := by intro b hb; omega
  have n12 : ¬ (J + 1 : Nat) < J := by omega
  have n20 : ¬ (J + 2 : Nat) = J := by omega
  have n02 : ¬ (J : Nat) = J + 2 := by omega
  have n21 : ¬ (J + 2 : Nat) < J + 1 := by omega
  have m21 : (J + 2 : Nat) ≠ J + 1 := by omega
  have m12 : (J + 1 : Nat) ≠ J + 2 := by omega
  have m10 : (J + 1 : Nat) ≠ J := by omega
  have hlow : ∀ b o, s.heap.get? b = some o → b < J := fun b o' e => by have := Heap.lt_size (st₁ _ _ e); rwa [hJ] at this
  have old2 : ∀ b o, H0.get? b = some o → h₂.get? b = some o := fun b o' e => by
    have hb := Heap.lt_size e
    rw [hH0s] at hb
    exact hsb₂.extBut b o' (Nat.ne_of_lt (Nat.lt_succ_of_lt hb)) (Heap.get?_push_of_some _ (hH1 ▸ Heap.get?_push_of_some _ e))
  have hacc₂ : h₂.PlainList (J + 1) #[] := ⟨_, hsb₂.extBut _ _ (Nat.ne_of_lt (Nat.lt_succ_self _)) (Heap.get?_push_of_some _ (hH1 ▸ hH0s ▸ Heap.get?_push_size _ rfl))⟩
  have hDf : J + 1 ∉ fp := fun hm => by
    rcases itr.fps _ hm with e | ⟨_, oo, ho, _⟩ | ⟨oo, ho, _⟩
    · exact absurd e (Nat.succ_ne_self _)
    · have := Heap.lt_size ho; rw [hH0s] at this; exact Nat.lt_irrefl _ this
    · have := Heap.lt_size ho; rw [hH0s] at this; exact Nat.lt_irrefl _ this
  have hCf : J + 2 ∉ fp := fun hm => by
    rcases itr.fps _ hm with e | ⟨_, oo, ho, _⟩ | ⟨oo, ho, _⟩
    · exact n20 e
    · have := Heap.lt_size ho; rw [hH0s] at this; exact n21 this
    · have := Heap.lt_size ho; rw [hH0s] at this; exact n21 this
  have hst₂ : St 0 h₂ := itr.walk.frame _ _ _ itr.start fun b _ o' e => old2 b o' e
  have hD0 : H0.get? (J + 1) = none := by
    cases e : H0.get? (J + 1) with
    | none => rfl
    | some o' => have := Heap.lt_size e; rw [hH0s] at this; exact absurd this (Nat.lt_irrefl _)
  have hC0 : H0.get? (J + 2) = none := by
    cases e : H0.get? (J + 2) with
    | none => rfl
    | some o' => have := Heap.lt_size e; rw [hH0s] at this; exact absurd this n21
  obtain ⟨oJ, hoJ, hnvJ⟩ := itr.itr 0 H0 itr.start
  -- from the heap with the iterator on
  have toSt : ∀ {h' : Heap}, (∀ b o', b ≠ J + 2 → b ≠ J + 1 → b ≠ J → H0.get? b = some o' → h'.get? b = some o') → StIn s.heap h' := by
    intro h' hk b o' e
    have := hlow b o' e
    obtain ⟨q1, q2, q3⟩ := low3 b this
    exact hk b o' q1 q2 q3 (stH b o' e)
  have toV : ∀ {h' : Heap}, (∀ b o', b ≠ J + 2 → b ≠ J + 1 → b ≠ J → H0.get? b = some o' → h'.get? b = some o') → ∀ Y, VKeep Y H0 h' := by
    intro h' hk Y
    have key : ∀ b o', isVal o' → H0.get? b = some o' → h'.get? b = some o' := by
      intro b o' hv e
      refine hk b o' ?_ ?_ ?_ e
      · rintro rfl; rw [hC0] at e; cases e
      · rintro rfl; rw [hD0] at e; cases e
      · rintro rfl; rw [hoJ] at e; cases e; exact hnvJ hv
    exact ⟨fun a o' _ hv e => key a o' hv e, fun a o' hv _ e => key a o' hv e⟩
  have loop : ∀ t, codeAny (model C.g.prog C.g.w) C.A (.compLoop (.ListComp elt [⟨.Name x px, iter, [], 0⟩] scope pos) 0 (.ref J) (.ref (J + 1)) (compEnvC scope cl (J + 2) C.env))
      (compPost (model C.g.prog C.g.w) C.A E none Q (.ref (J + 1)) (J + 2)) { s with heap := h₂, toks := t } := by
    intro t
    refine codeAny_compLoop_list (fun n s' => ∃ h' tk i m ys, s' = { s with heap := h', toks := tk } ∧ St i h' ∧ i ≤ xs.length ∧ n = xs.length + 1 - i ∧ h'.Ns (J + 2) m ∧ h'.PlainList (J + 1) (List.toArray ys) ∧ RelVs ((J + 1) :: X) h' (avs.take i) ys ∧
      (∀ b o', b ≠ J + 2 → b ≠ J + 1 → b ≠ J → H0.get? b = some o' → h'.get? b = some o')) ?_ (xs.length + 1)
      ⟨h₂, t, 0, _, [], rfl, hst₂, Nat.zero_le _, rfl, hns₂, hacc₂, rfl, fun b o' _ _ _ e => old2 b o' e⟩
    rintro n s' ⟨h', tk, i, m, ys, rfl, hst, hile, rfl, hns, hpl, hrel, hkp⟩
    obtain ⟨oI, hoI, hnvI⟩ := itr.itr i h' hst
    have step : ∀ {ha hb : Heap}, (∀ b o', b ≠ J → b ≠ J + 1 → b ≠ J + 2 → ha.get? b = some o' → hb.get? b = some o') → (∀ o', ha.get? J = some o' → ¬ isVal o') → (∀ o', ha.get? (J + 2) = some o' → ¬ isVal o') → (∀ o', ha.get? (J + 1) = some o' → o'.cls = .type "list") → VKeep ((J + 1) :: X) ha hb := by
      intro ha hb hk hj hc hd
      refine ⟨fun a o' hax hv e => ?_, fun a o' hv hcl e => ?_⟩
      · refine hk a o' ?_ ?_ ?_ e
        · rintro rfl; exact hj _ e hv
        · rintro rfl; exact hax List.mem_cons_self
        · rintro rfl; exact hc _ e hv
      · refine hk a o' ?_ ?_ ?_ e
        · rintro rfl; exact hj _ e hv
        · rintro rfl; exact hcl (hd _ e)
        · rintro rfl; exact hc _ e hv
    have nsNot : ∀ {h'' : Heap} {m''}, h''.Ns (J + 2) m'' → ∀ o', h''.get? (J + 2) = some o' → ¬ isVal o' := by
      rintro h'' m'' ⟨o₀, es, ep, ho₀, hd₀, _⟩ o' e hv
      rw [ho₀] at e; cases e
      rcases hv with ⟨_, _, q⟩ | ⟨_, _, q⟩ <;> rw [hd₀] at q <;> cases q
    have plL : ∀ {h'' : Heap} {it}, h''.PlainList (J + 1) it → ∀ o', h''.get? (J + 1) = some o' → o'.cls = .type "list" := by
      rintro h'' it ⟨n₀, e₀⟩ o' e
      rw [e₀] at e; cases e; rfl
    by_cases hlt : i < xs.length
    · refine itr.walk.item i _ _ _ hlt hst fun v' h₃ t₃ hP hst₃ hk₃ => ?_
      have hk₃' : ∀ b o', b ≠ J → h'.get? b = some o' → h₃.get? b = some o' := fun b o' hb e => hk₃ b o' (by simpa using hb) e
      obtain ⟨aw, haw, raw⟩ := itr.item i v' hP
      have hns₃ := hns.at' fun o' e => hk₃' _ o' n20 e
      have hpl₃ := hpl.at fun o' e => hk₃' _ o' m10 e
      have rel₃ := hrel.keep (step (fun b o' h1 _ _ e => hk₃' b o' h1 e) (fun o' e => by rw [hoI] at e; cases e; exact hnvI) (nsNot hns) (plL hpl))
      have kp₃ : ∀ b o', b ≠ J + 2 → b ≠ J + 1 → b ≠ J → H0.get? b = some o' → h₃.get? b = some o' := fun b o' h1 h2 h3 e => hk₃' b o' h3 (hkp b o' h1 h2 h3 e)
      obtain ⟨oI₃, hoI₃, hnvI₃⟩ := itr.itr (i + 1) h₃ hst₃
      refine wpAny_assign_Name (wpAny_storeName_local (lookup_relabel_local hx) hns₃ (fun h₄ hn₄ hs₄ => ?_) (by simp [compEnvC, relabel, hkind]))
      have hk₄ : ∀ b o', b ≠ J + 2 → h₃.get? b = some o' → h₄.get? b = some o' := fun b o' hb e => hs₄.extBut b o' hb e
      have hpl₄ := hpl₃.at fun o' e => hk₄ _ o' m12 e
      have rel₄ := rel₃.keep (step (fun b o' _ _ h1 e => hk₄ b o' h1 e) (fun o' e => by rw [hoI₃] at e; cases e; exact hnvI₃) (nsNot hns₃) (plL hpl₃))
      have kp₄ : ∀ b o', b ≠ J + 2 → b ≠ J + 1 → b ≠ J → H0.get? b = some o' → h₄.get? b = some o' := fun b o' h1 h2 h3 e => hk₄ b o' h1 (kp₃ b o' h1 h2 h3 e)
      have st₄ := toSt kp₄
      have hst₄ : St (i + 1) h₄ := itr.walk.frame _ _ _ hst₃ fun b hb o' e => hk₄ b o' (by rintro rfl; exact hCf hb) e
      have raw₄ : RelV ((J + 1) :: X) h₄ aw v' := (RelV.more hD0 aw v' raw).keep (toV kp₄ _)
      have rs₄ : RelS (C.comp scope cl (J + 2)).env ((J + 1) :: X) h₄ ⟨(x, aw) :: caps, none⟩ := by
        refine ⟨fun y av' e => ?_, fun _ _ e => by cases e⟩
        rcases lookup_capsA e with ⟨rfl, rfl⟩ | hmem
        · exact ⟨v', .inl ⟨lookup_relabel_local hx, _, hn₄, by simp⟩, raw₄⟩
        · obtain ⟨h1, h2, h3, h4, _⟩ := hcap _ hmem
          obtain ⟨w, hr, hw⟩ := rs.1 y av' h1
          rcases hr with ⟨hk', _⟩ | ⟨_, c', hc', hcl'⟩
          · have h2' : C.env.kindOf y = some .cell := h2
            rw [h2'] at hk'; cases hk'
          · refine ⟨w, .inr ⟨.inl h3, c', by rw [← hc']; exact h4, hcl'.keeps st₄⟩, ?_⟩
            have hDs : s.heap.get? (J + 1) = none := by
              cases e : s.heap.get? (J + 1) with
              | none => rfl
              | some o' => exact absurd (hlow _ _ e) n12
            exact (RelV.more hDs av' w hw).st st₄
      have xi₄ : XIn ((J + 1) :: X) h₄ := by
        intro a ha
        rcases List.mem_cons.mp ha with rfl | ha
        · obtain ⟨n₀, e₀⟩ := hpl₄; rw [e₀]; rfl
        · exact xi.st st₄ a ha
      refine (helt i aw haw (J + 2)).go (ok.comp hkind) ((J + 1) :: X) _ _ _ (p.st st₄) xi₄ rs₄ fun av₅ w₅ h₅ t₅ st₅ rv₅ hav₅ => ?_
      have hpl₅ := hpl₄.at fun o' e => st₅ _ o' e
      have hysl : ys.length = i := by rw [hrel.length, List.length_take]; omega
      refine wpAny_list_append_plain hpl₅ (fun h₆ hpl₆ hs₆ => ?_) (by rw [List.size_toArray, sizeLine_eq]; omega)
      have hk₆ : ∀ b o', b ≠ J + 1 → h₅.get? b = some o' → h₆.get? b = some o' := fun b o' hb e => hs₆.extBut b o' hb e
      have hns₅ := hn₄.at' fun o' e => st₅ _ o' e
      have hst₅ : St (i + 1) h₅ := itr.walk.frame _ _ _ hst₄ fun b hb o' e => st₅ b o' e
      obtain ⟨oI₅, hoI₅, hnvI₅⟩ := itr.itr (i + 1) h₅ hst₅
      have rel₅ := (RelVs.snoc (rel₄.st st₅) rv₅).keep (step (hb := h₆) (fun b o' _ h1 _ e => hk₆ b o' h1 e) (fun o' e => by rw [hoI₅] at e; cases e; exact hnvI₅) (nsNot hns₅) (plL hpl₅))
      refine ⟨xs.length + 1 - (i + 1), by omega, h₆, t₅, i + 1, _, ys ++ [w₅], rfl, ?_, hlt, rfl, hns₅.at' fun o' e => hk₆ _ o' m21 e, by simpa using hpl₆, ?_, fun b o' h1 h2 h3 e => hk₆ b o' h2 (st₅ b o' (kp₄ b o' h1 h2 h3 e))⟩
      · exact itr.walk.frame _ _ _ hst₅ fun b hb o' e => hk₆ b o' (by rintro rfl; exact hDf hb) e
      · rw [List.take_add_one, hav₅]; exact rel₅
    · have hie : i = xs.length := by omega
      refine itr.walk.done _ _ _ (by rw [← hie]; exact hst) fun h₃ t₃ hk₃ => ?_
      have hk₃' : ∀ b o', b ≠ J → h'.get? b = some o' → h₃.get? b = some o' := fun b o' hb e => hk₃ b o' (by simpa using hb) e
      have hns₃ := hns.at' fun o' e => hk₃' _ o' n20 e
      have hpl₃ := hpl.at fun o' e => hk₃' _ o' m10 e
      have rel₃ := hrel.keep (step (fun b o' h1 _ _ e => hk₃' b o' h1 e) (fun o' e => by rw [hoI] at e; cases e; exact hnvI) (nsNot hns) (plL hpl))
      refine ⟨_, hns₃, fun h₄ hs₄ => ?_⟩
      have hk₄ : ∀ b o', b ≠ J + 2 → h₃.get? b = some o' → h₄.get? b = some o' := fun b o' hb e => hs₄.extBut b o' hb e
      have hpl₄ := hpl₃.at fun o' e => hk₄ _ o' m12 e
      have rel₄ : RelVs ((J + 1) :: X) h₄ (avs.take i) ys := by
        refine rel₃.keep ⟨fun a o' hax hv e => ?_, fun a o' hv hcl e => ?_⟩
        · exact hk₄ a o' (by rintro rfl; exact nsNot hns₃ _ e hv) e
        · exact hk₄ a o' (by rintro rfl; exact nsNot hns₃ _ e hv) e
      rw [List.take_of_length_le (by omega)] at rel₄
      have kp₄ : ∀ b o', b ≠ J + 2 → b ≠ J + 1 → b ≠ J → H0.get? b = some o' → h₄.get? b = some o' := fun b o' h1 h2 h3 e => hk₄ b o' h1 (hk₃' b o' h3 (hkp b o' h1 h2 h3 e))
      refine k (.lst avs) _ h₄ t₃ (toSt kp₄) ⟨J + 1, ys, rfl, ?_, hpl₄.isList, rel₄.less fun q hq => List.mem_cons_of_mem _ hq⟩ φ
      intro hm
      have := xi _ hm
      obtain ⟨o', ho'⟩ := Option.isSome_iff_exists.mp this
      exact n12 (hlow _ _ ho')
  exact codeAny_compStart_list (loop _) (itr.walk.self 0 _ _ _ hst₂ (loop _))
end
set_option linter.unusedVariables false
theorem codeAny_call_cellsB {prog : Program} {w : World} {A : Around} {s : Shared} {R : Result → Shared → Prop} {a : Addr} {o : Obj} {fd : FuncData} {body : List Stmt} {vals : List Value} {binds : List (Str × Value)}
    (hroom : A.depth < recursionLimit) (ho : s.heap.get? a = some o) (hdata : o.data = .func fd) (hlim : s.heap.NoLimit) (hcd : s.heap.CodeRec fd.code fd.qualname)
    (hbody : fd.body = .stmts body) (hbind : BindsTo s fd ⟨vals, []⟩ binds) (hclo : fd.closure = [])
    (hkind : ∀ x ∈ binds, fd.scope.names.lookup x.1 = some .local ∨ (fd.scope.names.lookup x.1 = some .cell ∧ ((cellsFrom (s.heap.objs.size + 1) fd.scope.names []).lookup x.1).isSome = true))
    (h : ∀ s₁, InCallC s (callEnvC fd s.heap.objs.size a).locals (bindL (callEnvC fd s.heap.objs.size a).kindOf binds fun _ => none) (callEnvC fd s.heap.objs.size a).cells
        (bindC (callEnvC fd s.heap.objs.size a).kindOf binds fun _ => none) s₁ →
      wpAny (model prog w) (A.deeper (callEnvC fd s.heap.objs.size a)) (execs body (callEnvC fd s.heap.objs.size a)) (fun f s' => R (.ok (.ret (match f with | .ret v => v | _ => .none))) s')
        (fun e s' => wpAny (model prog w) (A.deeper (callEnvC fd s.heap.objs.size a)) (leaving (callEnvC fd s.heap.objs.size a) e) (fun _ s'' => R (.error e) s'') (fun e' s'' => R (.error e') s'') s') s₁)
    (hco : fd.scope.isCoroutine = false) (hgen : fd.scope.isGenerator = false) (hk : fd.scope.kind = .function) :
    codeAny (model prog w) A (.call (.ref a) ⟨vals, []⟩) R s := by
  refine codeAny_call_function hroom ho hdata hco hgen hbody hcd (hbind _ _ _ _ ?_)
  rw [hclo]
  refine wpAny_newFunctionEnv_cells hk hkind fun env he s' x => ?_
  subst he
  exact ⟨hlim.keeps x.toInCall.keep, codeAny_func (h s' x)⟩
theorem CallsV_ofB {g : GX} {n : Nat} {a : Addr} {ns : List Str} {body : List Stmt} {scope : Scope} {args : List AV} {Φ : AV → Prop}
    (hfd : ∀ h, PG g h → ∃ o d, h.get? a = some o ∧ o.data = .func d ∧ h.CodeRec d.code d.qualname ∧ d.body = .stmts body ∧ d.scope = scope ∧ d.closure = [] ∧ d.globals = mainGlobals ∧ d.builtins = builtinsNs ∧
      ∀ (vs : List Value) (s : Shared), s.heap = h → vs.length = args.length → BindsTo s d ⟨vs, []⟩ (ns.zip vs))
    (hlen : ns.length = args.length) (hp : parsOk ns scope = true) (hnd : ns.Nodup) (hk : scope.kind = .function) (hgen : scope.isGenerator = false) (hco : scope.isCoroutine = false)
    (hbody : ∀ (A : Around) (L : Addr) (qual : Str) (code : Value), Ex ⟨g, A, newEnv scope L mainGlobals (cellsFrom (L + 1) scope.names []) qual (some a) code none builtinsNs, n⟩ ⟨ns.zip args, none⟩ body fun fl _ => match fl with
      | .ret v => Φ v
      | .next => Φ .none
      | _ => False) : CallsV g (n + 1) (.ref a) args Φ := by
  refine ⟨fun A X s vs Q E ro p xi rv k => ?_⟩
  obtain ⟨o, d, ho, hd, hcd, hdb, hds, hdc, hdg, hdbl, hbind⟩ := hfd _ p
  have hvl : vs.length = args.length := rv.length
  have hb := hbind vs s rfl hvl
  have hdep := ro.depth
  have hun := ro.units
  have hzip1 : ∀ x ∈ ns.zip vs, x.1 ∈ ns := fun x hx => (List.of_mem_zip (a := x.1) (b := x.2) hx).1
  have hmapz : (ns.zip vs).map (·.1) = ns := by
    rw [List.map_fst_zip]; omega
  refine wpAny_call (codeAny_call_cellsB (by omega) ho hd p.top.nolimit hcd hdb hb hdc (fun x hx => by rw [hds]; exact parsOk_spec hp _ (hzip1 x hx)) (fun s₁ ic => ?_) (by rw [hds]; exact hco) (by rw [hds]; exact hgen) (by rw [hds]; exact hk))
  generalize hL : s.heap.objs.size = L at ic
  have henv : callEnvC d L a = newEnv scope L mainGlobals (cellsFrom (L + 1) scope.names []) (d.qualname ++ ".<locals>.") (some a) d.code none builtinsNs := by
    unfold callEnvC; rw [hds, hdg, hdbl]
  rw [henv] at ic ⊢
  generalize d.qualname ++ ".<locals>." = qual at *
  obtain ⟨h₁, tk₁, hs₁⟩ := ic.toInCall.same
  subst hs₁
  have st₁ : StIn s.heap h₁ := ic.toInCall.keep
  obtain ⟨lfr, hlfr⟩ := ro.fr
  let C : CX := ⟨g, A.deeper (newEnv scope L mainGlobals (cellsFrom (L + 1) scope.names []) qual (some a) d.code none builtinsNs), newEnv scope L mainGlobals (cellsFrom (L + 1) scope.names []) qual (some a) d.code none builtinsNs, n⟩
  have ok : C.Ok := by
    refine ⟨⟨ro.hh, ?_, ?_, ⟨_, Around.frames_deeper hlfr⟩⟩, hk, rfl, rfl, ⟨_, lfr, Around.frames_deeper hlfr, hgen, hco, rfl, rfl⟩⟩
    · show A.depth + 1 + n + 110 < recursionLimit; omega
    · show A.units + 3 + 16 * n + 100 < cLine; omega
  have FS1 : FS C s X none ⟨ns.zip args, none⟩ { s with heap := h₁, toks := tk₁ } := by
    refine ⟨⟨_, _, ic⟩, ?_, trivial, xi⟩
    intro x av e
    obtain ⟨v, hv, rx⟩ := lookup_zip (rv.st st₁) e
    refine ⟨v, ?_, by simpa using rx⟩
    have hxn : x ∈ ns := hzip1 (x, v) (mem_of_lookup hv)
    rcases parsOk_spec hp (L + 1) hxn with h1 | ⟨h1, h2⟩
    · exact .inl ⟨h1, _, ic.toInCall.ns, bindL_spec _ _ x v (by rw [hmapz]; exact hnd) hv h1⟩
    · obtain ⟨c, hc⟩ := Option.isSome_iff_exists.mp h2
      refine .inr ⟨.inl h1, c, hc, ?_⟩
      have := ic.cell x c hc
      rw [bindC_spec _ _ x v (by rw [hmapz]; exact hnd) hv h1] at this
      exact this
  refine wpAny_mono ((hbody _ L qual d.code).go ok s X none _ _ p FS1 fun afl fl S' β' h' tk F' fk bv rf ψ => ?_) (fun _ _ x => x) fun _ _ x => x.elim
  have keep := F'.keep
  cases afl with
  | ret av => obtain ⟨v, rfl, rv'⟩ := rf; exact k av v h' tk keep rv' ψ
  | next => obtain rfl : fl = .next := rf; exact k .none .none h' tk keep rfl ψ
  | brk => exact ψ.elim
  | cont => exact ψ.elim
set_option linter.unusedVariables false
theorem exists_rt : ∀ n : Nat, ∃ r, Rt ((n : Int) + 1) r
  | 0 => ⟨1, by decide, by decide, by decide⟩
  | n + 1 => by
    obtain ⟨r, h1, h2, h3⟩ := exists_rt n
    by_cases h : ((n + 1 : Nat) : Int) + 1 ≤ r * (r + 1)
    · exact ⟨r, h1, by omega, h⟩
    · have e1 : (r + 1) * (r + 1 - 1) = r * (r + 1) := by grind
      have e2 : (r + 1) * (r + 1 + 1) = r * (r + 1) + 2 * r + 2 := by grind
      exact ⟨r + 1, by omega, by rw [e1]; omega, by rw [e2]; omega⟩
noncomputable def rt (n : Int) : Int := Classical.epsilon fun r => Rt n r
theorem rt_spec {n : Int} (h : 0 < n) : Rt n (rt n) := by
  obtain ⟨r, hr⟩ := exists_rt (n - 1).toNat
  rw [show (((n - 1).toNat : Nat) : Int) + 1 = n by omega] at hr
  exact Classical.epsilon_spec (p := fun r => Rt n r) ⟨r, hr⟩
theorem rt_eq {n r : Int} (h : Rt n r) : rt n = r := (Classical.epsilon_spec (p := fun r => Rt n r) ⟨r, h⟩).uniq h
theorem rt_sq {m : Int} (h : 0 < m) : rt (m * m) = m := rt_eq ⟨h, by
  have : m * (m - 1) < m * m := Int.mul_lt_mul_of_pos_left (by omega) h
  exact this, Int.mul_le_mul_of_nonneg_left (by omega) (by omega)⟩

/-- the y of _ilog's loop after R turns -/
noncomputable def ys (M x : Int) : Nat → Int
  | 0 => x - M
  | R + 1 => dn (M * ys M x R * 2) (M + rt (M * (M + dn (ys M x R) (2 ^ R))))
/-- the w of its second loop -/
def hw (M u : Int) (T : Int) : Nat → Int
  | 0 => dn M T
  | j + 1 => dn M (T - 1 - j) - dn (u * hw M u T j) M

theorem dn_abs {a b : Int} (hb : 0 < b) : (dn a b).natAbs ≤ a.natAbs := by
  obtain ⟨h1, h2, _, _⟩ := dn_spec (a := a) hb
  apply Nat.le_of_not_lt
  intro h
  rcases Int.le_total 0 (dn a b) with hd | hd
  · have : b * (a.natAbs + 1 : Int) ≤ b * dn a b := Int.mul_le_mul_of_nonneg_left (by omega) (by omega)
    have h3 : (1 : Int) * a.natAbs ≤ b * a.natAbs := Int.mul_le_mul_of_nonneg_right (by omega) (by omega)
    rw [Int.mul_add, Int.mul_one] at this
    generalize b * dn a b = u at *
    generalize b * (a.natAbs : Int) = w at *
    omega
  · have : b * dn a b ≤ b * (-(a.natAbs + 1 : Int)) := Int.mul_le_mul_of_nonneg_left (by omega) (by omega)
    have h3 : (1 : Int) * a.natAbs ≤ b * a.natAbs := Int.mul_le_mul_of_nonneg_right (by omega) (by omega)
    rw [Int.mul_neg, Int.mul_add, Int.mul_one] at this
    generalize b * dn a b = u at *
    generalize b * (a.natAbs : Int) = w at *
    omega
theorem dn_bits {a b : Int} {m : Nat} (hb : 0 < b) (h : intBits a ≤ m) : intBits (dn a b) ≤ m := lt_bits (Nat.lt_of_le_of_lt (dn_abs hb) (bits_lt h))
theorem two_pos (k : Nat) : (0 : Int) < 2 ^ k := Int.pow_pos (by decide)
theorem go_le {M y : Int} {R L : Nat} (h : R ≤ L) : M ≤ y * 2 ^ (L - R) ↔ M * 2 ^ R ≤ y * 2 ^ L := by
  have e : y * 2 ^ L = y * 2 ^ (L - R) * 2 ^ R := by rw [Int.mul_assoc, ← Int.pow_add]; congr 2; omega
  rw [e]
  exact ⟨fun q => Int.mul_le_mul_of_nonneg_right q (Int.le_of_lt (two_pos R)), fun q => Int.le_of_mul_le_mul_right q (two_pos R)⟩
theorem go_gt {M y : Int} {R L : Nat} (h : L < R) : M ≤ y / 2 ^ (R - L) ↔ M * 2 ^ R ≤ y * 2 ^ L := by
  rw [Int.le_ediv_iff_mul_le (two_pos _)]
  have e : M * 2 ^ R = M * 2 ^ (R - L) * 2 ^ L := by rw [Int.mul_assoc, ← Int.pow_add]; congr 2; omega
  rw [e]
  exact ⟨fun q => Int.mul_le_mul_of_nonneg_right q (Int.le_of_lt (two_pos L)), fun q => Int.le_of_mul_le_mul_right q (two_pos L)⟩
theorem log_bits {M : Int} (hM : 0 < M) (h : M.natAbs.log2 < 1920) : intBits M ≤ 1920 := lt_bits ((Nat.log2_lt (by omega)).mp h)
set_option linter.unusedVariables false
-- a logarithm without reals: harmonic sums
/-- 1 + 1/2 + .. + 1/n -/
def Hn : Nat → Rat
  | 0 => 0
  | n + 1 => Hn n + 1 / ((n : Rat) + 1)
/-- nearly log(a / b) -/
def lg (N a b : Nat) : Rat := Hn (N * a) - Hn (N * b)
/-- a + a^2/2 + .. + a^T/T -/
def Pw : Nat → Rat → Rat
  | 0, _ => 0
  | T + 1, a => Pw T a + a ^ (T + 1) / ((T : Rat) + 1)
/-- 1 + a + .. + a^(T-1) -/
def Ge : Nat → Rat → Rat
  | 0, _ => 0
  | T + 1, a => Ge T a + a ^ T
theorem q_mul_le {a b c : Rat} (h : a ≤ b) (hc : 0 ≤ c) : a * c ≤ b * c := Rat.mul_le_mul_of_nonneg_right h hc
theorem q_mul_le' {a b c : Rat} (h : a ≤ b) (hc : 0 ≤ c) : c * a ≤ c * b := by have := q_mul_le h hc; grind
theorem q_mul_nn {a b : Rat} (ha : 0 ≤ a) (hb : 0 ≤ b) : 0 ≤ a * b := Rat.mul_nonneg ha hb
theorem q_div_le {a b c : Rat} (hb : 0 < b) (h : a ≤ c * b) : a / b ≤ c := by
  have h1 : (0 : Rat) ≤ 1 / b := by
    have : 0 < b⁻¹ := Rat.inv_pos.mpr hb
    grind
  have := q_mul_le h h1
  have e : c * b * (1 / b) = c := by grind
  have e2 : a * (1 / b) = a / b := by grind
  rw [e, e2] at this; exact this
theorem q_le_div {a b c : Rat} (hb : 0 < b) (h : c * b ≤ a) : c ≤ a / b := by
  have h1 : (0 : Rat) ≤ 1 / b := by
    have : 0 < b⁻¹ := Rat.inv_pos.mpr hb
    grind
  have := q_mul_le h h1
  have e : c * b * (1 / b) = c := by grind
  have e2 : a * (1 / b) = a / b := by grind
  rw [e, e2] at this; exact this
theorem q_div_nn {a b : Rat} (ha : 0 ≤ a) (hb : 0 < b) : 0 ≤ a / b := q_le_div hb (by grind)
theorem q_div_pos {a b : Rat} (ha : 0 < a) (hb : 0 < b) : 0 < a / b := by
  have h1 : 0 < b⁻¹ := Rat.inv_pos.mpr hb
  have := Rat.mul_pos ha h1
  grind
theorem q_pow_nn {a : Rat} (ha : 0 ≤ a) : ∀ n : Nat, 0 ≤ a ^ n
  | 0 => by grind
  | n + 1 => by have := q_mul_nn (q_pow_nn ha n) ha; grind
theorem q_pow_pos {a : Rat} (ha : 0 < a) : ∀ n : Nat, 0 < a ^ n
  | 0 => by grind
  | n + 1 => by have := Rat.mul_pos (q_pow_pos ha n) ha; grind
theorem q_pow_le {a b : Rat} (ha : 0 ≤ a) (h : a ≤ b) : ∀ n : Nat, a ^ n ≤ b ^ n
  | 0 => by grind
  | n + 1 => by
    have h1 := q_mul_le (q_pow_le ha h n) ha
    have h2 := q_mul_le' h (q_pow_nn (show 0 ≤ b by grind) n)
    rw [Rat.pow_succ, Rat.pow_succ]
    exact Rat.le_trans h1 h2
theorem q_pow_one {a : Rat} (ha : 0 ≤ a) (h : a ≤ 1) (n : Nat) : a ^ n ≤ 1 := by
  have := q_pow_le ha h n
  have e : ∀ n : Nat, (1 : Rat) ^ n = 1 := fun n => by
    induction n with
    | zero => grind
    | succ n ih => rw [Rat.pow_succ, ih]; grind
  have := e n
  grind

theorem Ge_eq (a : Rat) : ∀ T, Ge T a * (1 - a) = 1 - a ^ T
  | 0 => by simp [Ge]; grind
  | T + 1 => by have := Ge_eq a T; simp only [Ge]; grind
theorem Ge_nn {a : Rat} (ha : 0 ≤ a) : ∀ T, 0 ≤ Ge T a
  | 0 => by simp [Ge]
  | T + 1 => by have := Ge_nn ha T; have := q_pow_nn ha T; simp only [Ge]; grind
theorem pow_diff {u h : Rat} (hu : 0 ≤ u) (hh : 0 ≤ h) : ∀ k : Nat, ((k : Rat) + 1) * h * u ^ k ≤ (u + h) ^ (k + 1) - u ^ (k + 1) ∧ (u + h) ^ (k + 1) - u ^ (k + 1) ≤ ((k : Rat) + 1) * h * (u + h) ^ k
  | 0 => by constructor <;> grind
  | k + 1 => by
    obtain ⟨h1, h2⟩ := pow_diff hu hh k
    have hk : (0 : Rat) ≤ (k : Rat) := by grind
    have p1 := q_pow_nn hu k
    have p2 := q_pow_nn (show 0 ≤ u + h by grind) k
    have p3 := q_pow_le hu (show u ≤ u + h by grind) (k + 1)
    have ec : ((k + 1 : Nat) : Rat) = (k : Rat) + 1 := by grind
    rw [ec, Rat.pow_succ (u + h) (k + 1), Rat.pow_succ u (k + 1)]
    rw [Rat.pow_succ, Rat.pow_succ] at h1 h2 p3 ⊢
    generalize u ^ k = A at *
    generalize (u + h) ^ k = B at *
    generalize (k : Rat) = c at *
    have m0 : 0 ≤ (c + 1) * h * A := q_mul_nn (q_mul_nn (by grind) hh) p1
    have m1 := q_mul_le h1 hu
    have m2 : 0 ≤ (B * (u + h) - A * u) * h := q_mul_nn (by grind) hh
    have m3 := q_mul_le h2 (show 0 ≤ u + h by grind)
    have m4 := q_mul_le' p3 hh
    constructor
    · have e : B * (u + h) * (u + h) - A * u * u - (c + 1 + 1) * h * (A * u) = ((B * (u + h) - A * u) * u - (c + 1) * h * A * u) + (B * (u + h) - A * u) * h := by grind
      grind
    · have e : (c + 1 + 1) * h * (B * (u + h)) - (B * (u + h) * (u + h) - A * u * u) = ((c + 1) * h * B * (u + h) - (B * (u + h) - A * u) * (u + h)) + (h * (B * (u + h)) - h * (A * u)) := by grind
      grind
theorem Pw_diff {u h : Rat} (hu : 0 ≤ u) (hh : 0 ≤ h) : ∀ T : Nat, h * Ge T u ≤ Pw T (u + h) - Pw T u ∧ Pw T (u + h) - Pw T u ≤ h * Ge T (u + h)
  | 0 => by simp [Pw, Ge]; grind
  | T + 1 => by
    obtain ⟨h1, h2⟩ := Pw_diff hu hh T
    obtain ⟨d1, d2⟩ := pow_diff hu hh T
    have hT : (0 : Rat) < (T : Rat) + 1 := by
      have : (0 : Rat) ≤ (T : Rat) := by grind
      grind
    have e1 : ((T : Rat) + 1) * h * u ^ T / ((T : Rat) + 1) = h * u ^ T := by grind
    have e2 : ((T : Rat) + 1) * h * (u + h) ^ T / ((T : Rat) + 1) = h * (u + h) ^ T := by grind
    have i1 : h * u ^ T ≤ ((u + h) ^ (T + 1) - u ^ (T + 1)) / ((T : Rat) + 1) := q_le_div hT (by grind)
    have i2 : ((u + h) ^ (T + 1) - u ^ (T + 1)) / ((T : Rat) + 1) ≤ h * (u + h) ^ T := q_div_le hT (by grind)
    have e3 : ((u + h) ^ (T + 1) - u ^ (T + 1)) / ((T : Rat) + 1) = (u + h) ^ (T + 1) / ((T : Rat) + 1) - u ^ (T + 1) / ((T : Rat) + 1) := by grind
    simp only [Pw, Ge]
    constructor <;> grind
theorem Pw_zero : ∀ T, Pw T 0 = 0
  | 0 => rfl
  | T + 1 => by simp only [Pw, Pw_zero T, Rat.pow_succ]; grind
theorem nat_pos {n : Nat} (h : 0 < n) : (0 : Rat) < (n : Rat) := by
  have : ((0 : Nat) : Rat) < (n : Rat) := by exact_mod_cast h
  grind
/-- one step on the way from 1 - i/D to 1 - (i+1)/D -/
theorem Pw_step {D i T : Nat} (hi : 0 < i) (hD : i + 1 ≤ D) :
    Pw T (1 - (i : Rat) / D) - Pw T (1 - ((i : Rat) + 1) / D) ≤ 1 / (i : Rat) ∧ (1 - (1 - ((i : Rat) + 1) / D) ^ T) / ((i : Rat) + 1) ≤ Pw T (1 - (i : Rat) / D) - Pw T (1 - ((i : Rat) + 1) / D) := by
  have hDp : (0 : Rat) < (D : Rat) := nat_pos (by omega)
  have hip : (0 : Rat) < (i : Rat) := nat_pos hi
  have hiD : (i : Rat) + 1 ≤ (D : Rat) := by
    have : ((i + 1 : Nat) : Rat) ≤ (D : Rat) := by exact_mod_cast hD
    grind
  have hu : 0 ≤ 1 - ((i : Rat) + 1) / D := by
    have := q_div_le (c := 1) hDp (show (i : Rat) + 1 ≤ 1 * D by grind)
    grind
  have hh : (0 : Rat) ≤ 1 / D := q_div_nn (by grind) hDp
  have e : 1 - (i : Rat) / D = (1 - ((i : Rat) + 1) / D) + 1 / D := by grind
  have hv : 0 ≤ 1 - (i : Rat) / D := by grind
  obtain ⟨h1, h2⟩ := Pw_diff (h := 1 / D) hu hh T
  rw [← e] at h1 h2
  have g1 := Ge_eq (1 - (i : Rat) / D) T
  have g2 := Ge_eq (1 - ((i : Rat) + 1) / D) T
  have pn := q_pow_nn hv T
  constructor
  · refine Rat.le_trans h2 ?_
    have e2 : 1 / (D : Rat) * Ge T (1 - (i : Rat) / D) = (1 - (1 - (i : Rat) / D) ^ T) / i := by
      rw [← g1]; grind
    rw [e2]
    exact q_div_le hip (by grind)
  · refine Rat.le_trans ?_ h1
    have e2 : 1 / (D : Rat) * Ge T (1 - ((i : Rat) + 1) / D) = (1 - (1 - ((i : Rat) + 1) / D) ^ T) / ((i : Rat) + 1) := by
      rw [← g2]; grind
    rw [e2]
    exact Rat.le_refl
theorem Pw_up {D p T : Nat} (hp : 0 < p) : ∀ j : Nat, p + j ≤ D → Pw T (1 - (p : Rat) / D) - Pw T (1 - ((p + j : Nat) : Rat) / D) ≤ Hn (p + j) - Hn p + 1 / (p : Rat) - 1 / ((p + j : Nat) : Rat)
  | 0, _ => by grind
  | j + 1, h => by
    have ih := Pw_up (D := D) (T := T) hp j (by omega)
    have st := (Pw_step (D := D) (i := p + j) (T := T) (by omega) (by omega)).1
    have e : ((p + (j + 1) : Nat) : Rat) = ((p + j : Nat) : Rat) + 1 := by grind
    have eH : Hn (p + (j + 1)) = Hn (p + j) + 1 / (((p + j : Nat) : Rat) + 1) := rfl
    rw [e, eH]
    grind
theorem Pw_dn {D p T : Nat} (hp : 0 < p) : ∀ j : Nat, p + j ≤ D → (1 - (1 - (p : Rat) / D) ^ T) * (Hn (p + j) - Hn p) ≤ Pw T (1 - (p : Rat) / D) - Pw T (1 - ((p + j : Nat) : Rat) / D)
  | 0, _ => by grind
  | j + 1, h => by
    have ih := Pw_dn (D := D) (T := T) hp j (by omega)
    have st := (Pw_step (D := D) (i := p + j) (T := T) (by omega) (by omega)).2
    have e : ((p + (j + 1) : Nat) : Rat) = ((p + j : Nat) : Rat) + 1 := by grind
    have eH : Hn (p + (j + 1)) = Hn (p + j) + 1 / (((p + j : Nat) : Rat) + 1) := rfl
    rw [e, eH]
    have hDp : (0 : Rat) < (D : Rat) := nat_pos (by omega)
    have hpp : (0 : Rat) < ((p + j : Nat) : Rat) := nat_pos (by omega)
    have hle : (p : Rat) ≤ ((p + j : Nat) : Rat) := by exact_mod_cast (show p ≤ p + j by omega)
    have hjD : ((p + j : Nat) : Rat) + 1 ≤ (D : Rat) := by
      have : ((p + j + 1 : Nat) : Rat) ≤ (D : Rat) := by exact_mod_cast h
      grind
    generalize ((p + j : Nat) : Rat) = q at *
    have hu : 0 ≤ 1 - (q + 1) / D := by
      have := q_div_le (c := 1) hDp (show q + 1 ≤ 1 * D by grind)
      grind
    have hle2 : 1 - (q + 1) / D ≤ 1 - (p : Rat) / D := by
      have : (p : Rat) / D ≤ (q + 1) / D := q_div_le hDp (by
        have : (q + 1) / D * D = q + 1 := by grind
        grind)
      grind
    have pw := q_pow_le hu hle2 T
    generalize (1 - (q + 1) / (D : Rat)) ^ T = A at *
    generalize (1 - (p : Rat) / D) ^ T = B at *
    have : (1 - B) * (1 / (q + 1)) ≤ (1 - A) / (q + 1) := by
      have h1 : (0 : Rat) ≤ 1 / (q + 1) := q_div_nn (by grind) (by grind)
      have := q_mul_le (show 1 - B ≤ 1 - A by grind) h1
      grind
    grind
set_option linter.unusedVariables false
theorem natCast_mul' (a b : Nat) : ((a * b : Nat) : Rat) = (a : Rat) * (b : Rat) := by exact_mod_cast rfl
theorem nat_le {a b : Nat} (h : a ≤ b) : (a : Rat) ≤ (b : Rat) := by exact_mod_cast h
theorem lg_same (N a : Nat) : lg N a a = 0 := by unfold lg; grind
theorem lg_add (N a b c : Nat) : lg N a b + lg N b c = lg N a c := by unfold lg; grind
theorem Hn_mono (a : Nat) : ∀ j : Nat, Hn a ≤ Hn (a + j)
  | 0 => by grind
  | j + 1 => by
    have ih := Hn_mono a j
    have eH : Hn (a + (j + 1)) = Hn (a + j) + 1 / (((a + j : Nat) : Rat) + 1) := rfl
    have h0 : (0 : Rat) ≤ ((a + j : Nat) : Rat) := by grind
    have : (0 : Rat) ≤ 1 / (((a + j : Nat) : Rat) + 1) := q_div_nn (by grind) (by grind)
    grind
theorem lg_nn {N a b : Nat} (h : b ≤ a) : 0 ≤ lg N a b := by
  unfold lg
  have := Hn_mono (N * b) (N * a - N * b)
  have e : N * b + (N * a - N * b) = N * a := by
    have := Nat.mul_le_mul_left N h
    omega
  rw [e] at this
  grind
/-- the series from below, and from above -/
theorem lg_lo {N m p T : Nat} (hN : 0 < N) (hp : 0 < p) (hm : p ≤ m) : Pw T (1 - (p : Rat) / m) ≤ lg N m p + 1 / (N : Rat) ∧ (1 - (1 - (p : Rat) / m) ^ T) * lg N m p ≤ Pw T (1 - (p : Rat) / m) := by
  have hNp := nat_pos hN
  have hpp := nat_pos hp
  have hmp : (0 : Rat) < (m : Rat) := nat_pos (by omega)
  have hle : N * p ≤ N * m := Nat.mul_le_mul_left N hm
  have hNP : 0 < N * p := Nat.mul_pos hN hp
  have u := Pw_up (D := N * m) (p := N * p) (T := T) hNP (N * m - N * p) (by omega)
  have d := Pw_dn (D := N * m) (p := N * p) (T := T) hNP (N * m - N * p) (by omega)
  have e : N * p + (N * m - N * p) = N * m := by omega
  rw [e] at u d
  have e1 : 1 - ((N * p : Nat) : Rat) / ((N * m : Nat) : Rat) = 1 - (p : Rat) / m := by
    rw [natCast_mul', natCast_mul']; grind
  have e2 : 1 - ((N * m : Nat) : Rat) / ((N * m : Nat) : Rat) = 0 := by
    rw [natCast_mul']
    have := Rat.mul_pos hNp hmp
    grind
  rw [e1, e2, Pw_zero] at u d
  unfold lg
  refine ⟨?_, by grind⟩
  have h1 : (1 : Rat) / ((N * p : Nat) : Rat) ≤ 1 / N := by
    refine q_div_le (nat_pos hNP) ?_
    rw [natCast_mul']
    have hp1 : (1 : Rat) ≤ p := by have := nat_le (show 1 ≤ p from hp); grind
    have e3 : 1 / (N : Rat) * (N * p) = p := by grind
    rw [e3]; exact hp1
  have h2 : (0 : Rat) ≤ 1 / ((N * m : Nat) : Rat) := q_div_nn (by grind) (nat_pos (Nat.mul_pos hN (by omega)))
  grind
/-- a common factor -/
theorem Hn_scale1 {c j : Nat} (hc : 0 < c) (hj : 0 < j) : ∀ i : Nat, i ≤ c → (i : Rat) / (c * ((j : Rat) + 1)) ≤ Hn (c * j + i) - Hn (c * j) ∧ Hn (c * j + i) - Hn (c * j) ≤ (i : Rat) / (c * j)
  | 0, _ => by
    have e : (((0 : Nat) : Rat)) = 0 := by grind
    rw [e]
    constructor <;> grind
  | i + 1, h => by
    obtain ⟨h1, h2⟩ := Hn_scale1 hc hj i (by omega)
    have eH : Hn (c * j + (i + 1)) = Hn (c * j + i) + 1 / (((c * j + i : Nat) : Rat) + 1) := rfl
    have e : ((i + 1 : Nat) : Rat) = (i : Rat) + 1 := by grind
    have hcp := nat_pos hc
    have hjp := nat_pos hj
    have hcj := Rat.mul_pos hcp hjp
    have hcj1 : (0 : Rat) < c * ((j : Rat) + 1) := Rat.mul_pos hcp (by grind)
    have hi0 : (0 : Rat) ≤ (i : Rat) := by grind
    have hic : (i : Rat) + 1 ≤ c := by have := nat_le h; grind
    have ec : ((c * j + i : Nat) : Rat) = c * j + i := by
      have : ((c * j + i : Nat) : Rat) = ((c * j : Nat) : Rat) + i := by exact_mod_cast rfl
      rw [this, natCast_mul']
    rw [eH, e, ec]
    have hden : (0 : Rat) < c * j + i + 1 := by grind
    have k1 : 1 / ((c : Rat) * ((j : Rat) + 1)) ≤ 1 / (c * j + i + 1) := by
      refine q_le_div hden ?_
      have : 1 / ((c : Rat) * ((j : Rat) + 1)) * (c * j + i + 1) = (c * j + i + 1) / (c * ((j : Rat) + 1)) := by grind
      rw [this]
      exact q_div_le hcj1 (by grind)
    have k2 : 1 / ((c : Rat) * j + i + 1) ≤ 1 / (c * j) := by
      refine q_div_le hden ?_
      have : 1 / ((c : Rat) * j) * (c * j + i + 1) = (c * j + i + 1) / (c * j) := by grind
      rw [this]
      exact q_le_div hcj (by grind)
    constructor
    · have : ((i : Rat) + 1) / (c * ((j : Rat) + 1)) = (i : Rat) / (c * ((j : Rat) + 1)) + 1 / (c * ((j : Rat) + 1)) := by grind
      grind
    · have : ((i : Rat) + 1) / (c * j) = (i : Rat) / (c * j) + 1 / (c * j) := by grind
      grind
theorem Hn_scale {c b : Nat} (hc : 0 < c) (hb : 0 < b) : ∀ j : Nat, Hn (b + j) - Hn b ≤ Hn (c * (b + j)) - Hn (c * b) ∧ Hn (c * (b + j)) - Hn (c * b) ≤ Hn (b + j) - Hn b + 1 / (b : Rat) - 1 / ((b + j : Nat) : Rat)
  | 0 => by constructor <;> grind
  | j + 1 => by
    obtain ⟨h1, h2⟩ := Hn_scale hc hb j
    obtain ⟨s1, s2⟩ := Hn_scale1 (j := b + j) hc (by omega) c (Nat.le_refl _)
    have e : c * (b + (j + 1)) = c * (b + j) + c := by rw [show b + (j + 1) = (b + j) + 1 by omega, Nat.mul_succ]
    have eH : Hn (b + (j + 1)) = Hn (b + j) + 1 / (((b + j : Nat) : Rat) + 1) := rfl
    have eb : ((b + (j + 1) : Nat) : Rat) = ((b + j : Nat) : Rat) + 1 := by grind
    have hcp := nat_pos hc
    have hbj : (0 : Rat) < ((b + j : Nat) : Rat) := nat_pos (by omega)
    rw [e, eH, eb]
    generalize ((b + j : Nat) : Rat) = q at *
    have e1 : (c : Rat) / (c * (q + 1)) = 1 / (q + 1) := by grind
    have e2 : (c : Rat) / (c * q) = 1 / q := by grind
    rw [e1] at s1
    rw [e2] at s2
    constructor <;> grind
theorem lg_scale {N a b c : Nat} (hN : 0 < N) (hb : 0 < b) (hab : b ≤ a) (hc : 0 < c) : lg N a b ≤ lg N (c * a) (c * b) ∧ lg N (c * a) (c * b) ≤ lg N a b + 1 / (N : Rat) := by
  have hle : N * b ≤ N * a := Nat.mul_le_mul_left N hab
  obtain ⟨h1, h2⟩ := Hn_scale (c := c) (b := N * b) hc (Nat.mul_pos hN hb) (N * a - N * b)
  have e : N * b + (N * a - N * b) = N * a := by omega
  rw [e] at h1 h2
  have ea : N * (c * a) = c * (N * a) := Nat.mul_left_comm ..
  have eb : N * (c * b) = c * (N * b) := Nat.mul_left_comm ..
  unfold lg
  rw [ea, eb]
  refine ⟨h1, ?_⟩
  have hNp := nat_pos hN
  have hbp := nat_pos hb
  have k1 : (1 : Rat) / ((N * b : Nat) : Rat) ≤ 1 / N := by
    refine q_div_le (nat_pos (Nat.mul_pos hN hb)) ?_
    rw [natCast_mul']
    have hp1 : (1 : Rat) ≤ b := by have := nat_le (show 1 ≤ b from hb); grind
    have e3 : 1 / (N : Rat) * (N * b) = b := by grind
    rw [e3]; exact hp1
  have k2 : (0 : Rat) ≤ 1 / ((N * a : Nat) : Rat) := q_div_nn (by grind) (nat_pos (Nat.mul_pos hN (by omega)))
  grind
-- tails
theorem q_pow_add (a : Rat) (m : Nat) : ∀ n : Nat, a ^ (m + n) = a ^ m * a ^ n
  | 0 => by grind
  | n + 1 => by rw [show m + (n + 1) = (m + n) + 1 from rfl, Rat.pow_succ, Rat.pow_succ, q_pow_add a m n]; grind
theorem Pw_tail {a : Rat} (ha : 0 ≤ a) (T : Nat) : ∀ j : Nat, Pw (T + j) a - Pw T a ≤ a ^ (T + 1) / ((T : Rat) + 1) * Ge j a ∧ Pw T a ≤ Pw (T + j) a
  | 0 => by simp [Ge]; grind
  | j + 1 => by
    obtain ⟨h1, h2⟩ := Pw_tail ha T j
    have e : Pw (T + (j + 1)) a = Pw (T + j) a + a ^ (T + j + 1) / (((T + j : Nat) : Rat) + 1) := rfl
    have hT : (0 : Rat) ≤ (T : Rat) := by grind
    have hj : (0 : Rat) ≤ (j : Rat) := by grind
    have ec : ((T + j : Nat) : Rat) = (T : Rat) + j := by exact_mod_cast rfl
    rw [e, ec]
    simp only [Ge]
    have ep : a ^ (T + j + 1) = a ^ (T + 1) * a ^ j := by rw [← q_pow_add]; congr 1; omega
    have p0 := q_pow_nn ha (T + j + 1)
    have k : a ^ (T + j + 1) / ((T : Rat) + j + 1) ≤ a ^ (T + 1) / ((T : Rat) + 1) * a ^ j := by
      have e2 : a ^ (T + 1) / ((T : Rat) + 1) * a ^ j = a ^ (T + j + 1) / ((T : Rat) + 1) := by rw [ep]; grind
      rw [e2]
      refine q_div_le (by grind) ?_
      have : a ^ (T + j + 1) / ((T : Rat) + 1) * ((T : Rat) + j + 1) = a ^ (T + j + 1) + a ^ (T + j + 1) / ((T : Rat) + 1) * j := by grind
      have := q_mul_nn (q_div_nn p0 (show (0 : Rat) < (T : Rat) + 1 by grind)) hj
      grind
    have k2 : 0 ≤ a ^ (T + j + 1) / ((T : Rat) + j + 1) := q_div_nn p0 (by grind)
    have e3 : a ^ (T + 1) / ((T : Rat) + 1) * (Ge j a + a ^ j) = a ^ (T + 1) / ((T : Rat) + 1) * Ge j a + a ^ (T + 1) / ((T : Rat) + 1) * a ^ j := by grind
    constructor <;> grind
/-- what the series leaves out -/
def tl (T : Nat) (a : Rat) : Rat := a ^ (T + 1) / (((T : Rat) + 1) * (1 - a))
theorem Ge_le {a : Rat} (ha : 0 ≤ a) (h1 : a < 1) (T : Nat) : Ge T a ≤ 1 / (1 - a) := by
  refine q_le_div (by grind) ?_
  have := Ge_eq a T
  have := q_pow_nn ha T
  grind
theorem Pw_tl {a : Rat} (ha : 0 ≤ a) (h1 : a < 1) (T j : Nat) : Pw (T + j) a ≤ Pw T a + tl T a := by
  have h := (Pw_tail ha T j).1
  have g := Ge_le ha h1 j
  have hT : (0 : Rat) ≤ (T : Rat) := by grind
  have p : 0 ≤ a ^ (T + 1) / ((T : Rat) + 1) := q_div_nn (q_pow_nn ha _) (by grind)
  have := q_mul_le' g p
  have e : a ^ (T + 1) / ((T : Rat) + 1) * (1 / (1 - a)) = tl T a := by unfold tl; grind
  grind
theorem half_pow : ∀ n : Nat, (1 / 2 : Rat) ^ n * ((n : Rat) + 1) ≤ 1
  | 0 => by grind
  | n + 1 => by
    have ih := half_pow n
    have e : ((n + 1 : Nat) : Rat) = (n : Rat) + 1 := by grind
    have p := q_pow_nn (show (0 : Rat) ≤ 1 / 2 by grind) n
    have hn : (0 : Rat) ≤ (n : Rat) := by grind
    rw [e, Rat.pow_succ]
    have := q_mul_nn p hn
    generalize (1 / 2 : Rat) ^ n = A at *
    grind
theorem half_pow_le {N n : Nat} (hN : 0 < N) (h : N ≤ n) {a : Rat} (ha : 0 ≤ a) (h2 : a ≤ 1 / 2) : a ^ n ≤ 1 / (N : Rat) := by
  have h1 := q_pow_le ha h2 n
  have h3 := half_pow n
  have hNp := nat_pos hN
  have hle := nat_le h
  refine Rat.le_trans h1 (q_le_div hNp ?_)
  have p := q_pow_nn (show (0 : Rat) ≤ 1 / 2 by grind) n
  have := q_mul_le' (show (N : Rat) ≤ (n : Rat) + 1 by grind) p
  grind
theorem tl_le {N T : Nat} (hN : 0 < N) (h : N ≤ T) {a : Rat} (ha : 0 ≤ a) (h2 : a ≤ 1 / 2) : tl T a ≤ 1 / (N : Rat) := by
  have h1 := half_pow_le hN (show N ≤ T + 1 by omega) ha h2
  have hT : (0 : Rat) ≤ (T : Rat) := by grind
  have hN1 := nat_le (show 1 ≤ N from hN)
  have hNT := nat_le h
  have hNp := nat_pos hN
  unfold tl
  refine q_div_le (Rat.mul_pos (by grind) (by grind)) ?_
  have k : (1 : Rat) ≤ ((T : Rat) + 1) * (1 - a) := by
    have := q_mul_le' (show (1 : Rat) / 2 ≤ 1 - a by grind) (show (0 : Rat) ≤ (T : Rat) + 1 by grind)
    grind
  have := q_mul_le' k (show (0 : Rat) ≤ 1 / N from q_div_nn (by grind) hNp)
  grind
/-- both sides -/
theorem lg_both {N m p : Nat} (T : Nat) (hN : 0 < N) (hp : 0 < p) (hm : p ≤ m) (h2 : m ≤ 2 * p) :
    Pw T (1 - (p : Rat) / m) - 1 / (N : Rat) ≤ lg N m p ∧ lg N m p ≤ Pw T (1 - (p : Rat) / m) + tl T (1 - (p : Rat) / m) + 1 / (N : Rat) := by
  have hpp := nat_pos hp
  have hmp : (0 : Rat) < (m : Rat) := nat_pos (by omega)
  have hle := nat_le hm
  have hle2 : (m : Rat) ≤ 2 * p := by
    have := nat_le h2
    rw [natCast_mul'] at this
    grind
  have ha : 0 ≤ 1 - (p : Rat) / m := by
    have := q_div_le (c := 1) hmp (show (p : Rat) ≤ 1 * m by grind)
    grind
  have ha2 : 1 - (p : Rat) / m ≤ 1 / 2 := by
    have := q_le_div (c := 1 / 2) hmp (show (1 / 2 : Rat) * m ≤ p by grind)
    grind
  refine ⟨by have := (lg_lo (T := T) hN hp hm).1; grind, ?_⟩
  have h1 := (lg_lo (T := T + N) hN hp hm).2
  have h3 := (lg_lo (T := 1) hN hp hm).2
  have h0 := lg_nn (N := N) hm
  generalize 1 - (p : Rat) / m = a at *
  have ht := Pw_tl ha (by grind) T N
  have hpw := half_pow_le hN (show N ≤ T + N by omega) ha ha2
  have e1 : Pw 1 a = a := by simp [Pw]; grind
  rw [e1] at h3
  have hl : lg N m p ≤ 1 := by
    have := q_mul_le (show (1 / 2 : Rat) ≤ 1 - a ^ 1 by grind) h0
    grind
  have := q_mul_le hpw h0
  have := q_mul_le' hl (show (0 : Rat) ≤ 1 / N from q_div_nn (by grind) (nat_pos hN))
  grind
set_option linter.unusedVariables false
/-- nearly log(a / b), for whole numbers above nought -/
def lgI (N : Nat) (a b : Int) : Rat := lg N a.toNat b.toNat
theorem int_pos {n : Int} (h : 0 < n) : (0 : Rat) < (n : Rat) := by exact_mod_cast h
theorem int_le {a b : Int} (h : a ≤ b) : (a : Rat) ≤ (b : Rat) := by exact_mod_cast h
theorem toNat_cast {n : Int} (h : 0 ≤ n) : ((n.toNat : Nat) : Rat) = (n : Rat) := by
  have : ((n.toNat : Nat) : Int) = n := Int.toNat_of_nonneg h
  have h2 : (((n.toNat : Nat) : Int) : Rat) = (n : Rat) := by rw [this]
  exact h2
theorem neg_pow {a : Rat} (ha : 0 ≤ a) : ∀ k : Nat, -(a ^ k) ≤ (-a) ^ k ∧ (-a) ^ k ≤ a ^ k
  | 0 => by constructor <;> grind
  | k + 1 => by
    obtain ⟨h1, h2⟩ := neg_pow ha k
    rw [Rat.pow_succ, Rat.pow_succ]
    have m1 := q_mul_le h1 ha
    have m2 := q_mul_le h2 ha
    constructor <;> grind
theorem Pw_neg {a : Rat} (ha : 0 ≤ a) (T : Nat) : ∀ j : Nat, Pw (T + j) (-a) - Pw T (-a) ≤ Pw (T + j) a - Pw T a ∧ -(Pw (T + j) a - Pw T a) ≤ Pw (T + j) (-a) - Pw T (-a)
  | 0 => by constructor <;> grind
  | j + 1 => by
    obtain ⟨h1, h2⟩ := Pw_neg ha T j
    obtain ⟨n1, n2⟩ := neg_pow ha (T + j + 1)
    have e : Pw (T + (j + 1)) a = Pw (T + j) a + a ^ (T + j + 1) / (((T + j : Nat) : Rat) + 1) := rfl
    have e' : Pw (T + (j + 1)) (-a) = Pw (T + j) (-a) + (-a) ^ (T + j + 1) / (((T + j : Nat) : Rat) + 1) := rfl
    have h0 : (0 : Rat) ≤ ((T + j : Nat) : Rat) := by grind
    rw [e, e']
    generalize (((T + j : Nat) : Rat)) = c at *
    have h3 : (0 : Rat) ≤ 1 / (c + 1) := q_div_nn (by grind) (by grind)
    have m1 := q_mul_le n1 h3
    have m2 := q_mul_le n2 h3
    have e1 : a ^ (T + j + 1) / (c + 1) = a ^ (T + j + 1) * (1 / (c + 1)) := by grind
    have e2 : (-a) ^ (T + j + 1) / (c + 1) = (-a) ^ (T + j + 1) * (1 / (c + 1)) := by grind
    rw [e1, e2]
    constructor <;> grind
theorem pow_even (t : Rat) : ∀ J : Nat, (t * t) ^ J = t ^ (2 * J) ∧ (-t) ^ (2 * J) = t ^ (2 * J)
  | 0 => by constructor <;> grind
  | J + 1 => by
    obtain ⟨h1, h2⟩ := pow_even t J
    rw [show 2 * (J + 1) = 2 * J + 1 + 1 by omega, Rat.pow_succ, Rat.pow_succ, Rat.pow_succ, Rat.pow_succ, Rat.pow_succ, h1, h2]
    constructor <;> grind
theorem Pw_even (t : Rat) : ∀ J : Nat, Pw (2 * J) t - Pw J (t * t) = -Pw (2 * J) (-t)
  | 0 => by simp [Pw]; grind
  | J + 1 => by
    have ih := Pw_even t J
    obtain ⟨h1, h2⟩ := pow_even t J
    rw [show 2 * (J + 1) = 2 * J + 1 + 1 by omega]
    simp only [Pw]
    have e : ((2 * J + 1 : Nat) : Rat) = 2 * (J : Rat) + 1 := by
      have : ((2 * J + 1 : Nat) : Rat) = ((2 * J : Nat) : Rat) + 1 := by exact_mod_cast rfl
      rw [this, natCast_mul']; grind
    have e2 : ((2 * J : Nat) : Rat) = 2 * (J : Rat) := by rw [natCast_mul']; grind
    have hJ : (0 : Rat) ≤ (J : Rat) := by grind
    rw [e, e2, Rat.pow_succ, Rat.pow_succ, Rat.pow_succ, Rat.pow_succ, Rat.pow_succ, h1, h2]
    generalize t ^ (2 * J) = A at *
    generalize (J : Rat) = c at *
    have k1 : A * (t * t) / (c + 1) = 2 * (A * t * t / (2 * c + 1 + 1)) := by
      have : 2 * c + 1 + 1 ≠ 0 := by grind
      have : c + 1 ≠ 0 := by grind
      grind
    grind
/-- log(1 + y/M) by its series -/
theorem taylor {N : Nat} (hN : 0 < N) {M y : Int} (hM : 0 < M) (hy : 2 * (y.natAbs : Int) ≤ M) (T : Nat) :
    lgI N (M + y) M + Pw T (-((y : Rat) / M)) ≤ tl T ((y.natAbs : Rat) / M) + 4 / (N : Rat) ∧ -(tl T ((y.natAbs : Rat) / M) + 4 / (N : Rat)) ≤ lgI N (M + y) M + Pw T (-((y : Rat) / M)) := by
  have hNp := nat_pos hN
  have hMp := int_pos hM
  have he : (0 : Rat) < 1 / N := q_div_pos (by grind) hNp
  have e4 : (4 : Rat) / N = 4 * (1 / N) := by grind
  rw [e4]
  have cM := toNat_cast (show 0 ≤ M by omega)
  rcases Int.le_total y 0 with hy0 | hy0
  · have b := lg_both (N := N) (m := M.toNat) (p := (M + y).toNat) T hN (by omega) (by omega) (by omega)
    have e1 : (((M + y).toNat : Nat) : Rat) = (M : Rat) + y := by
      rw [toNat_cast (show 0 ≤ M + y by omega)]; exact_mod_cast rfl
    have e2 : 1 - (((M + y).toNat : Nat) : Rat) / ((M.toNat : Nat) : Rat) = -((y : Rat) / M) := by
      rw [e1, cM]; grind
    have e3 : (y.natAbs : Rat) / M = -((y : Rat) / M) := by
      have : ((y.natAbs : Nat) : Rat) = -(y : Rat) := by
        have : ((y.natAbs : Nat) : Int) = -y := by omega
        have h2 : (((y.natAbs : Nat) : Int) : Rat) = ((-y : Int) : Rat) := by rw [this]
        have h3 : ((-y : Int) : Rat) = -(y : Rat) := by exact_mod_cast rfl
        rw [← h3]; exact h2
      rw [this]; grind
    rw [e2] at b
    rw [e3]
    have en : lgI N (M + y) M = -lg N M.toNat (M + y).toNat := by unfold lgI lg; grind
    rw [en]
    constructor <;> grind
  · have hyM : 2 * y ≤ M := by omega
    have q1 : y * y ≤ y * M := Int.mul_le_mul_of_nonneg_left (by omega) hy0
    have q2 : 2 * y * M ≤ M * M := Int.mul_le_mul_of_nonneg_right hyM (by omega)
    have q3 : 2 * (y * M) = 2 * y * M := by grind
    have hMM : 0 < M * M := Int.mul_pos hM hM
    have q4 : 2 * y * (2 * y) ≤ M * M := Int.mul_le_mul hyM hyM (by omega) (by omega)
    have q5 : 2 * y * (2 * y) = 4 * (y * y) := by grind
    have q6 : 0 ≤ y * y := Int.mul_nonneg hy0 hy0
    have b1 := lg_both (N := N) (m := M.toNat) (p := (M - y).toNat) (2 * (T + N)) hN (by omega) (by omega) (by omega)
    have b2 := lg_both (N := N) (m := (M * M).toNat) (p := (M * M - y * y).toNat) (T + N) hN (by omega) (by omega) (by omega)
    have s1 := lg_scale (N := N) (a := (M + y).toNat) (b := M.toNat) (c := (M - y).toNat) hN (by omega) (by omega) (by omega)
    have s2 := lg_scale (N := N) (a := M.toNat) (b := (M - y).toNat) (c := M.toNat) hN (by omega) (by omega) (by omega)
    have n1 : (M - y).toNat * (M + y).toNat = (M * M - y * y).toNat := by
      rw [← Int.toNat_mul (by omega) (by omega)]; congr 1; grind
    have n2 : (M - y).toNat * M.toNat = M.toNat * (M - y).toNat := Nat.mul_comm ..
    have n3 : M.toNat * M.toNat = (M * M).toNat := by rw [← Int.toNat_mul (by omega) (by omega)]
    rw [n1, n2] at s1
    rw [n3] at s2
    have c1 : (((M - y).toNat : Nat) : Rat) = (M : Rat) - y := by
      rw [toNat_cast (show 0 ≤ M - y by omega)]; exact_mod_cast rfl
    have c2 : (((M * M).toNat : Nat) : Rat) = (M : Rat) * M := by
      rw [toNat_cast (show 0 ≤ M * M by omega)]; exact_mod_cast rfl
    have c3 : (((M * M - y * y).toNat : Nat) : Rat) = (M : Rat) * M - y * y := by
      rw [toNat_cast (show 0 ≤ M * M - y * y by omega)]; exact_mod_cast rfl
    have e1 : 1 - (((M - y).toNat : Nat) : Rat) / ((M.toNat : Nat) : Rat) = (y : Rat) / M := by rw [c1, cM]; grind
    have e2 : 1 - (((M * M - y * y).toNat : Nat) : Rat) / (((M * M).toNat : Nat) : Rat) = ((y : Rat) / M) * ((y : Rat) / M) := by
      rw [c2, c3]
      have : (M : Rat) ≠ 0 := by grind
      grind
    have e3 : (y.natAbs : Rat) / M = (y : Rat) / M := by
      have : ((y.natAbs : Nat) : Rat) = (y : Rat) := by
        have : ((y.natAbs : Nat) : Int) = y := by omega
        have h2 : (((y.natAbs : Nat) : Int) : Rat) = ((y : Int) : Rat) := by rw [this]
        exact h2
      rw [this]
    rw [e1] at b1
    rw [e2] at b2
    rw [e3]
    have hyr : (2 : Rat) * y ≤ M := by
      have := int_le hyM
      have h3 : ((2 * y : Int) : Rat) = 2 * (y : Rat) := by exact_mod_cast rfl
      rw [h3] at this; exact this
    have hyr0 : (0 : Rat) ≤ y := by have := int_le hy0; exact_mod_cast this
    have t0 : 0 ≤ (y : Rat) / M := q_div_nn hyr0 hMp
    have t1 : (y : Rat) / M ≤ 1 / 2 := q_div_le hMp (by grind)
    have add1 := lg_add N (M * M - y * y).toNat (M * M).toNat (M.toNat * (M - y).toNat)
    have en : lg N (M * M - y * y).toNat (M * M).toNat = -lg N (M * M).toNat (M * M - y * y).toNat := by unfold lg; grind
    have ev := Pw_even ((y : Rat) / M) (T + N)
    generalize (y : Rat) / M = t at *
    have tt0 : 0 ≤ t * t := q_mul_nn t0 t0
    have tt1 : t * t ≤ 1 / 2 := by have := q_mul_le t1 t0; grind
    have l1 := tl_le hN (show N ≤ 2 * (T + N) by omega) t0 t1
    have l2 := tl_le hN (show N ≤ T + N by omega) tt0 tt1
    have pn := Pw_neg t0 T (2 * (T + N) - T)
    have pt := Pw_tl t0 (by grind) T (2 * (T + N) - T)
    rw [show T + (2 * (T + N) - T) = 2 * (T + N) by omega] at pn pt
    unfold lgI
    constructor <;> grind
set_option linter.unusedVariables false
/-- 2 (z + z^3/3 + ..), K rows -/
def At : Nat → Rat → Rat
  | 0, _ => 0
  | K + 1, z => At K z + 2 * z ^ (2 * K + 1) / (2 * (K : Rat) + 1)
theorem At_eq (z : Rat) : ∀ K : Nat, Pw (2 * K) z - Pw (2 * K) (-z) = At K z
  | 0 => by simp [Pw, At]; grind
  | K + 1 => by
    have ih := At_eq z K
    obtain ⟨h1, h2⟩ := pow_even z K
    rw [show 2 * (K + 1) = 2 * K + 1 + 1 by omega]
    simp only [Pw, At]
    have e : ((2 * K + 1 : Nat) : Rat) = 2 * (K : Rat) + 1 := by
      have : ((2 * K + 1 : Nat) : Rat) = ((2 * K : Nat) : Rat) + 1 := by exact_mod_cast rfl
      rw [this, natCast_mul']; grind
    have e2 : ((2 * K : Nat) : Rat) = 2 * (K : Rat) := by rw [natCast_mul']; grind
    have hK : (0 : Rat) ≤ (K : Rat) := by grind
    rw [e, e2, Rat.pow_succ, Rat.pow_succ, Rat.pow_succ, Rat.pow_succ, h2]
    generalize z ^ (2 * K) = A at *
    generalize (K : Rat) = c at *
    have : 2 * c + 1 ≠ 0 := by grind
    have : 2 * c + 1 + 1 ≠ 0 := by grind
    grind
/-- what the rows left out come to -/
def tA (K : Nat) (z : Rat) : Rat := 2 * z ^ (2 * K + 1) / ((2 * (K : Rat) + 1) * (1 - z * z))
theorem At_mono {z : Rat} (hz : 0 ≤ z) (K : Nat) : ∀ j : Nat, At K z ≤ At (K + j) z ∧ At (K + j) z - At K z ≤ 2 * z ^ (2 * K + 1) / (2 * (K : Rat) + 1) * Ge j (z * z)
  | 0 => by simp [Ge]; grind
  | j + 1 => by
    obtain ⟨h1, h2⟩ := At_mono hz K j
    have e : At (K + (j + 1)) z = At (K + j) z + 2 * z ^ (2 * (K + j) + 1) / (2 * ((K + j : Nat) : Rat) + 1) := rfl
    have ec : ((K + j : Nat) : Rat) = (K : Rat) + j := by exact_mod_cast rfl
    have hK : (0 : Rat) ≤ (K : Rat) := by grind
    have hj : (0 : Rat) ≤ (j : Rat) := by grind
    have p0 := q_pow_nn hz (2 * (K + j) + 1)
    have ep : z ^ (2 * (K + j) + 1) = z ^ (2 * K + 1) * (z * z) ^ j := by
      rw [(pow_even z j).1, ← q_pow_add]; congr 1; omega
    rw [e, ec]
    simp only [Ge]
    have k0 : 0 ≤ 2 * z ^ (2 * (K + j) + 1) / (2 * ((K : Rat) + j) + 1) := q_div_nn (by grind) (by grind)
    have k1 : 2 * z ^ (2 * (K + j) + 1) / (2 * ((K : Rat) + j) + 1) ≤ 2 * z ^ (2 * K + 1) / (2 * (K : Rat) + 1) * (z * z) ^ j := by
      have e2 : 2 * z ^ (2 * K + 1) / (2 * (K : Rat) + 1) * (z * z) ^ j = 2 * z ^ (2 * (K + j) + 1) / (2 * (K : Rat) + 1) := by rw [ep]; grind
      rw [e2]
      refine q_div_le (by grind) ?_
      generalize z ^ (2 * (K + j) + 1) = X at *
      have : 2 * X / (2 * (K : Rat) + 1) * (2 * ((K : Rat) + j) + 1) = 2 * X + 2 * X / (2 * (K : Rat) + 1) * (2 * j) := by
        have : 2 * (K : Rat) + 1 ≠ 0 := by grind
        grind
      have := q_mul_nn (q_div_nn (show 0 ≤ 2 * X by grind) (show (0 : Rat) < 2 * (K : Rat) + 1 by grind)) (show (0 : Rat) ≤ 2 * j by grind)
      grind
    have e3 : 2 * z ^ (2 * K + 1) / (2 * (K : Rat) + 1) * (Ge j (z * z) + (z * z) ^ j) = 2 * z ^ (2 * K + 1) / (2 * (K : Rat) + 1) * Ge j (z * z) + 2 * z ^ (2 * K + 1) / (2 * (K : Rat) + 1) * (z * z) ^ j := by grind
    constructor <;> grind
theorem At_tA {z : Rat} (hz : 0 ≤ z) (h1 : z ≤ 1 / 2) (K j : Nat) : At (K + j) z ≤ At K z + tA K z := by
  have h := (At_mono hz K j).2
  have zz : z * z ≤ 1 / 4 := by
    have := q_mul_le h1 hz
    grind
  have g := Ge_le (q_mul_nn hz hz) (show z * z < 1 by grind) j
  have hK : (0 : Rat) ≤ (K : Rat) := by grind
  have p : 0 ≤ 2 * z ^ (2 * K + 1) / (2 * (K : Rat) + 1) := q_div_nn (by have := q_pow_nn hz (2 * K + 1); grind) (by grind)
  have := q_mul_le' g p
  have e : 2 * z ^ (2 * K + 1) / (2 * (K : Rat) + 1) * (1 / (1 - z * z)) = tA K z := by unfold tA; grind
  grind
/-- log(A / B) by its series -/
theorem artanh {N : Nat} (hN : 0 < N) {A B : Int} (hB : 0 < B) (hBA : B ≤ A) (h2 : A ≤ 2 * B) (K : Nat) :
    At K (((A - B : Int) : Rat) / ((A + B : Int) : Rat)) ≤ lgI N A B + 12 / (N : Rat) ∧ lgI N A B ≤ At K (((A - B : Int) : Rat) / ((A + B : Int) : Rat)) + tA K (((A - B : Int) : Rat) / ((A + B : Int) : Rat)) + 12 / (N : Rat) := by
  have hNp := nat_pos hN
  have he : (0 : Rat) < 1 / N := q_div_pos (by grind) hNp
  have hmp := int_pos (show 0 < A + B by omega)
  have hn0 : (0 : Rat) ≤ ((A - B : Int) : Rat) := by have := int_le (show 0 ≤ A - B by omega); exact_mod_cast this
  have hn2 : 2 * ((A - B : Int) : Rat) ≤ ((A + B : Int) : Rat) := by
    have := int_le (show 2 * (A - B) ≤ A + B by omega)
    have h3 : ((2 * (A - B) : Int) : Rat) = 2 * ((A - B : Int) : Rat) := by exact_mod_cast rfl
    rw [h3] at this; exact this
  have t1 := taylor (N := N) hN (M := A + B) (y := A - B) (by omega) (by omega) (2 * (K + N))
  have t2 := taylor (N := N) hN (M := A + B) (y := -(A - B)) (by omega) (by omega) (2 * (K + N))
  rw [show A + B + (A - B) = 2 * A by omega] at t1
  rw [show A + B + -(A - B) = 2 * B by omega] at t2
  have ca : (((-(A - B) : Int)) : Rat) = -((A - B : Int) : Rat) := by exact_mod_cast rfl
  have na : (((A - B).natAbs : Nat) : Rat) = ((A - B : Int) : Rat) := by
    have : (((A - B).natAbs : Nat) : Int) = A - B := by omega
    have h2 : ((((A - B).natAbs : Nat) : Int) : Rat) = ((A - B : Int) : Rat) := by rw [this]
    exact h2
  have nb : (-(A - B)).natAbs = (A - B).natAbs := Int.natAbs_neg _
  rw [ca, nb, na] at t2
  rw [na] at t1
  have s := lg_scale (N := N) (a := A.toNat) (b := B.toNat) (c := 2) hN (by omega) (by omega) (by decide)
  have e1 : 2 * A.toNat = (2 * A).toNat := by omega
  have e2 : 2 * B.toNat = (2 * B).toNat := by omega
  rw [e1, e2] at s
  have ad := lg_add N (2 * A).toNat (A + B).toNat (2 * B).toNat
  have en : lg N (A + B).toNat (2 * B).toNat = -lg N (2 * B).toNat (A + B).toNat := by unfold lg; grind
  have ae := At_eq (((A - B : Int) : Rat) / ((A + B : Int) : Rat)) (K + N)
  have z0 : 0 ≤ ((A - B : Int) : Rat) / ((A + B : Int) : Rat) := q_div_nn hn0 hmp
  have z1 : ((A - B : Int) : Rat) / ((A + B : Int) : Rat) ≤ 1 / 2 := q_div_le hmp (by grind)
  have ez : -(-((A - B : Int) : Rat) / ((A + B : Int) : Rat)) = ((A - B : Int) : Rat) / ((A + B : Int) : Rat) := by grind
  rw [ez] at t2
  generalize ((A - B : Int) : Rat) / ((A + B : Int) : Rat) = z at *
  have l1 := tl_le hN (show N ≤ 2 * (K + N) by omega) z0 z1
  have m1 := (At_mono z0 K N).1
  have m2 := At_tA z0 z1 K N
  have e4 : (4 : Rat) / N = 4 * (1 / N) := by grind
  have e12 : (12 : Rat) / N = 12 * (1 / N) := by grind
  rw [e4] at t1 t2
  rw [e12]
  unfold lgI at t1 t2 ⊢
  constructor <;> grind
-- the sums of _law_log
/-- its power after i turns -/
def lp (n m scale : Int) : Nat → Int
  | 0 => scale * n / m
  | i + 1 => lp n m scale i * n * n / (m * m)
/-- its sum after K turns -/
def ls (n m scale : Int) : Nat → Int
  | 0 => 0
  | K + 1 => ls n m scale K + 2 * (lp n m scale K / (2 * (K : Int) + 1))
theorem ediv_q {a b : Int} (hb : 0 < b) : ((a / b : Int) : Rat) ≤ (a : Rat) / b ∧ (a : Rat) / b - 1 ≤ ((a / b : Int) : Rat) := by
  have h1 := Int.mul_ediv_add_emod a b
  have h2 := Int.emod_nonneg a (show b ≠ 0 by omega)
  have h3 := Int.emod_lt_of_pos a hb
  have hbp := int_pos hb
  have c : (b : Rat) * ((a / b : Int) : Rat) + ((a % b : Int) : Rat) = (a : Rat) := by exact_mod_cast congrArg (fun x : Int => (x : Rat)) h1
  have r0 : (0 : Rat) ≤ ((a % b : Int) : Rat) := by have := int_le h2; exact_mod_cast this
  have r1 : ((a % b : Int) : Rat) ≤ (b : Rat) := int_le (by omega)
  generalize ((a / b : Int) : Rat) = q at *
  generalize ((a % b : Int) : Rat) = r at *
  rw [← c]
  constructor
  · exact q_le_div hbp (by grind)
  · have := q_div_le (a := b * q + r) (c := q + 1) hbp (by grind)
    grind
theorem lp_both {n m scale : Int} (hm : 0 < m) (hn : 0 ≤ n) (h3 : 3 * n ≤ m) (hs : 0 ≤ scale) : ∀ i : Nat,
    0 ≤ lp n m scale i ∧ ((lp n m scale i : Int) : Rat) ≤ scale * ((n : Rat) / m) ^ (2 * i + 1) ∧ (scale : Rat) * ((n : Rat) / m) ^ (2 * i + 1) - 9 / 8 ≤ ((lp n m scale i : Int) : Rat)
  | 0 => by
    refine ⟨Int.ediv_nonneg (Int.mul_nonneg hs hn) (by omega), ?_⟩
    obtain ⟨h1, h2⟩ := ediv_q (a := scale * n) hm
    have c : ((scale * n : Int) : Rat) = (scale : Rat) * n := by exact_mod_cast rfl
    rw [c] at h1 h2
    have hmp := int_pos hm
    have e : (scale : Rat) * n / m = scale * ((n : Rat) / m) ^ (2 * 0 + 1) := by
      rw [show 2 * 0 + 1 = 0 + 1 from rfl, Rat.pow_succ]; grind
    rw [e] at h1 h2
    show ((scale * n / m : Int) : Rat) ≤ _ ∧ _ ≤ ((scale * n / m : Int) : Rat)
    constructor <;> grind
  | i + 1 => by
    obtain ⟨h0, h1, h2⟩ := lp_both hm hn h3 hs i
    have hmm : 0 < m * m := Int.mul_pos hm hm
    have hmp := int_pos hm
    obtain ⟨g1, g2⟩ := ediv_q (a := lp n m scale i * n * n) hmm
    have c1 : ((lp n m scale i * n * n : Int) : Rat) = ((lp n m scale i : Int) : Rat) * n * n := by exact_mod_cast rfl
    have c2 : ((m * m : Int) : Rat) = (m : Rat) * m := by exact_mod_cast rfl
    rw [c1, c2] at g1 g2
    refine ⟨Int.ediv_nonneg (Int.mul_nonneg (Int.mul_nonneg h0 hn) hn) (by omega), ?_⟩
    show ((lp n m scale i * n * n / (m * m) : Int) : Rat) ≤ _ ∧ _ ≤ ((lp n m scale i * n * n / (m * m) : Int) : Rat)
    have hn0 : (0 : Rat) ≤ n := by have := int_le hn; exact_mod_cast this
    have hn3 : 3 * (n : Rat) ≤ m := by
      have := int_le h3
      have h3 : ((3 * n : Int) : Rat) = 3 * (n : Rat) := by exact_mod_cast rfl
      rw [h3] at this; exact this
    have z0 : 0 ≤ (n : Rat) / m := q_div_nn hn0 hmp
    have z1 : (n : Rat) / m ≤ 1 / 3 := q_div_le hmp (by grind)
    have e : ((lp n m scale i : Int) : Rat) * n * n / (m * m) = ((lp n m scale i : Int) : Rat) * (((n : Rat) / m) * ((n : Rat) / m)) := by
      have : (m : Rat) ≠ 0 := by grind
      grind
    rw [e] at g1 g2
    rw [show 2 * (i + 1) + 1 = 2 * i + 1 + 1 + 1 by omega, Rat.pow_succ, Rat.pow_succ]
    generalize ((lp n m scale i * n * n / (m * m) : Int) : Rat) = Z at *
    generalize ((lp n m scale i : Int) : Rat) = Y at *
    generalize (n : Rat) / m = z at *
    generalize z ^ (2 * i + 1) = X at *
    generalize (scale : Rat) = s at *
    have zz0 : 0 ≤ z * z := q_mul_nn z0 z0
    have zz1 : z * z ≤ 1 / 9 := by
      have := q_mul_le z1 z0
      grind
    have m1 := q_mul_le h1 zz0
    have m2 := q_mul_le h2 zz0
    have e5 : s * (X * z * z) = s * X * (z * z) := by grind
    rw [e5]
    constructor <;> grind
theorem ls_both {n m scale : Int} (hm : 0 < m) (hn : 0 ≤ n) (h3 : 3 * n ≤ m) (hs : 0 ≤ scale) : ∀ K : Nat,
    ((ls n m scale K : Int) : Rat) ≤ scale * At K ((n : Rat) / m) ∧ (scale : Rat) * At K ((n : Rat) / m) ≤ ((ls n m scale K : Int) : Rat) + 3 * K
  | 0 => by
    show ((0 : Int) : Rat) ≤ (scale : Rat) * 0 ∧ (scale : Rat) * 0 ≤ ((0 : Int) : Rat) + 3 * ((0 : Nat) : Rat)
    constructor <;> grind
  | K + 1 => by
    obtain ⟨i1, i2⟩ := ls_both hm hn h3 hs K
    obtain ⟨h0, h1, h2⟩ := lp_both hm hn h3 hs K
    have hk : 0 < 2 * (K : Int) + 1 := by omega
    have d1 := Int.mul_ediv_add_emod (lp n m scale K) (2 * (K : Int) + 1)
    have d2 := Int.emod_nonneg (lp n m scale K) (show 2 * (K : Int) + 1 ≠ 0 by omega)
    have d3 := Int.emod_lt_of_pos (lp n m scale K) hk
    have ck : ((2 * (K : Int) + 1 : Int) : Rat) = 2 * (K : Rat) + 1 := by exact_mod_cast rfl
    have cc : (2 * (K : Rat) + 1) * ((lp n m scale K / (2 * (K : Int) + 1) : Int) : Rat) + ((lp n m scale K % (2 * (K : Int) + 1) : Int) : Rat) = ((lp n m scale K : Int) : Rat) := by
      rw [← ck]; exact_mod_cast congrArg (fun x : Int => (x : Rat)) d1
    have r0 : (0 : Rat) ≤ ((lp n m scale K % (2 * (K : Int) + 1) : Int) : Rat) := by have := int_le d2; exact_mod_cast this
    have r1 : ((lp n m scale K % (2 * (K : Int) + 1) : Int) : Rat) ≤ 2 * (K : Rat) := by
      have := int_le (show lp n m scale K % (2 * (K : Int) + 1) ≤ 2 * (K : Int) by omega)
      have e : ((2 * (K : Int) : Int) : Rat) = 2 * (K : Rat) := by exact_mod_cast rfl
      rw [e] at this; exact this
    have eL : ((ls n m scale (K + 1) : Int) : Rat) = ((ls n m scale K : Int) : Rat) + 2 * ((lp n m scale K / (2 * (K : Int) + 1) : Int) : Rat) := by
      show ((ls n m scale K + 2 * (lp n m scale K / (2 * (K : Int) + 1)) : Int) : Rat) = _
      exact_mod_cast rfl
    have eK : ((K + 1 : Nat) : Rat) = (K : Rat) + 1 := by grind
    rw [eL, eK]
    simp only [At]
    have hK : (0 : Rat) ≤ (K : Rat) := by grind
    generalize ((lp n m scale K / (2 * (K : Int) + 1) : Int) : Rat) = q at *
    generalize ((lp n m scale K % (2 * (K : Int) + 1) : Int) : Rat) = r at *
    generalize ((lp n m scale K : Int) : Rat) = Y at *
    generalize ((n : Rat) / m) ^ (2 * K + 1) = X at *
    generalize At K ((n : Rat) / m) = AA at *
    generalize (scale : Rat) = s at *
    generalize (K : Rat) = c at *
    have e6 : s * (AA + 2 * X / (2 * c + 1)) = s * AA + 2 * (s * X) / (2 * c + 1) := by
      have : 2 * c + 1 ≠ 0 := by grind
      grind
    rw [e6]
    constructor
    · have : 2 * q ≤ 2 * (s * X) / (2 * c + 1) := q_le_div (by grind) (by grind)
      grind
    · have : 2 * (s * X) / (2 * c + 1) ≤ 2 * q + 3 := q_div_le (by grind) (by grind)
      grind
/-- the sum and the logarithm -/
theorem ls_log {N : Nat} (hN : 0 < N) {A B scale : Int} (hB : 0 < B) (hBA : B ≤ A) (h2 : A ≤ 2 * B) (hs : 0 ≤ scale) {K : Nat} (hK : lp (A - B) (A + B) scale K ≤ 0) :
    ((ls (A - B) (A + B) scale K : Int) : Rat) ≤ scale * (lgI N A B + 12 / (N : Rat)) ∧ (scale : Rat) * (lgI N A B - 12 / (N : Rat)) ≤ ((ls (A - B) (A + B) scale K : Int) : Rat) + 3 * ((K : Rat) + 1) := by
  obtain ⟨a1, a2⟩ := artanh hN hB hBA h2 K
  obtain ⟨l1, l2⟩ := ls_both (n := A - B) (m := A + B) (by omega) (by omega) (by omega) hs K
  obtain ⟨p0, p1, p2⟩ := lp_both (n := A - B) (m := A + B) (by omega) (by omega) (by omega) hs K
  have hp0 : lp (A - B) (A + B) scale K = 0 := by omega
  rw [hp0] at p1 p2
  have z : ((0 : Int) : Rat) = 0 := by exact_mod_cast rfl
  rw [z] at p1 p2
  have hsr : (0 : Rat) ≤ scale := by have := int_le hs; exact_mod_cast this
  have hmp := int_pos (show 0 < A + B by omega)
  have hn0 : (0 : Rat) ≤ ((A - B : Int) : Rat) := by have := int_le (show 0 ≤ A - B by omega); exact_mod_cast this
  have hn3 : 3 * ((A - B : Int) : Rat) ≤ ((A + B : Int) : Rat) := by
    have := int_le (show 3 * (A - B) ≤ A + B by omega)
    have h3 : ((3 * (A - B) : Int) : Rat) = 3 * ((A - B : Int) : Rat) := by exact_mod_cast rfl
    rw [h3] at this; exact this
  have z0 : 0 ≤ ((A - B : Int) : Rat) / ((A + B : Int) : Rat) := q_div_nn hn0 hmp
  have z1 : ((A - B : Int) : Rat) / ((A + B : Int) : Rat) ≤ 1 / 3 := q_div_le hmp (by grind)
  generalize ((A - B : Int) : Rat) / ((A + B : Int) : Rat) = zz at *
  generalize ((ls (A - B) (A + B) scale K : Int) : Rat) = SS at *
  generalize lgI N A B = lam at *
  generalize (12 : Rat) / N = e at *
  generalize (scale : Rat) = s at *
  have zq : zz * zz ≤ 1 / 9 := by have := q_mul_le z1 z0; grind
  have hc : (0 : Rat) ≤ (K : Rat) := by grind
  have hp := q_pow_nn z0 (2 * K + 1)
  have tb : s * tA K zz ≤ 3 := by
    have e7 : s * tA K zz = 2 * (s * zz ^ (2 * K + 1)) / ((2 * (K : Rat) + 1) * (1 - zz * zz)) := by unfold tA; grind
    rw [e7]
    have hd : (8 : Rat) / 9 ≤ (2 * (K : Rat) + 1) * (1 - zz * zz) := by
      have := q_mul_le (show (1 : Rat) ≤ 2 * (K : Rat) + 1 by grind) (show 0 ≤ 1 - zz * zz by grind)
      grind
    exact q_div_le (by grind) (by grind)
  have m1 := q_mul_le' a1 hsr
  have m2 := q_mul_le' a2 hsr
  constructor
  · exact Rat.le_trans l1 m1
  · have e8 : s * (At K zz + tA K zz + e) = s * At K zz + s * tA K zz + s * e := by grind
    have e9 : s * (lam - e) = s * lam - s * e := by grind
    rw [e8] at m2
    rw [e9]
    grind
set_option linter.unusedVariables false
/-- 1/k - t/(k+1) + t^2/(k+2) - .., n terms -/
def Qs (t : Rat) : Nat → Nat → Rat
  | _, 0 => 0
  | k, n + 1 => 1 / (k : Rat) - t * Qs t (k + 1) n
theorem Qs_back (t : Rat) : ∀ (n k : Nat), Qs t k (n + 1) = Qs t k n + (-t) ^ n / ((k + n : Nat) : Rat)
  | 0, k => by
    show 1 / (k : Rat) - t * 0 = 0 + (-t) ^ 0 / ((k : Nat) : Rat)
    grind
  | n + 1, k => by
    have ih := Qs_back t n (k + 1)
    have e : Qs t k (n + 1 + 1) = 1 / (k : Rat) - t * Qs t (k + 1) (n + 1) := rfl
    have e2 : Qs t k (n + 1) = 1 / (k : Rat) - t * Qs t (k + 1) n := rfl
    rw [e, e2, ih, show k + (n + 1) = k + 1 + n by omega, Rat.pow_succ]
    grind
theorem Qs_one (t : Rat) : ∀ T : Nat, t * Qs t 1 T = -Pw T (-t)
  | 0 => by simp [Qs, Pw]
  | T + 1 => by
    have ih := Qs_one t T
    rw [Qs_back]
    simp only [Pw]
    have e : ((1 + T : Nat) : Rat) = (T : Rat) + 1 := by rw [Nat.add_comm]; grind
    rw [e, Rat.pow_succ]
    grind
theorem Qs_abs {t τ : Rat} (h0 : 0 ≤ τ) (h1 : τ < 1) (ht : t ≤ τ) (ht' : -τ ≤ t) : ∀ (n k : Nat), 0 < k → Qs t k n ≤ 1 / (1 - τ) ∧ -(1 / (1 - τ)) ≤ Qs t k n
  | 0, k, hk => by
    have : (0 : Rat) ≤ 1 / (1 - τ) := q_div_nn (by grind) (by grind)
    show (0 : Rat) ≤ _ ∧ _ ≤ (0 : Rat)
    constructor <;> grind
  | n + 1, k, hk => by
    obtain ⟨i1, i2⟩ := Qs_abs h0 h1 ht ht' n (k + 1) (by omega)
    show 1 / (k : Rat) - t * Qs t (k + 1) n ≤ _ ∧ _ ≤ 1 / (k : Rat) - t * Qs t (k + 1) n
    have hE : (0 : Rat) < 1 / (1 - τ) := q_div_pos (by grind) (by grind)
    have eE : 1 + τ * (1 / (1 - τ)) = 1 / (1 - τ) := by
      have : 1 - τ ≠ 0 := by grind
      grind
    have hk1 : 1 / (k : Rat) ≤ 1 := q_div_le (nat_pos hk) (by have := nat_le (show 1 ≤ k from hk); grind)
    have hk0 : 0 ≤ 1 / (k : Rat) := q_div_nn (by grind) (nat_pos hk)
    generalize Qs t (k + 1) n = Q at *
    generalize 1 / (1 - τ) = E at *
    have b : t * Q ≤ τ * E ∧ -(τ * E) ≤ t * Q := by
      have a1 := q_mul_nn (show 0 ≤ τ - t by grind) (show 0 ≤ E + Q by grind)
      have a2 := q_mul_nn (show 0 ≤ τ + t by grind) (show 0 ≤ E - Q by grind)
      have a3 := q_mul_nn (show 0 ≤ τ - t by grind) (show 0 ≤ E - Q by grind)
      have a4 := q_mul_nn (show 0 ≤ τ + t by grind) (show 0 ≤ E + Q by grind)
      constructor <;> grind
    constructor <;> grind
theorem dn_q {a b : Int} (hb : 0 < b) : (a : Rat) / b - ((dn a b : Int) : Rat) ≤ 1 / 2 ∧ -(1 / 2) ≤ (a : Rat) / b - ((dn a b : Int) : Rat) := by
  obtain ⟨h1, h2, _, _⟩ := dn_spec (a := a) hb
  have hbp := int_pos hb
  have g1 := int_le h1
  have g2 := int_le h2
  have c1 : ((-b : Int) : Rat) = -(b : Rat) := by exact_mod_cast rfl
  have c2 : ((2 * (a - b * dn a b) : Int) : Rat) = 2 * ((a : Rat) - b * ((dn a b : Int) : Rat)) := by exact_mod_cast rfl
  rw [c1, c2] at g1
  rw [c2] at g2
  generalize ((dn a b : Int) : Rat) = q at *
  constructor
  · have := q_div_le (a := (a : Rat)) (b := (b : Rat)) (c := q + 1 / 2) hbp (by grind)
    grind
  · have := q_le_div (a := (a : Rat)) (b := (b : Rat)) (c := q - 1 / 2) hbp (by grind)
    grind
/-- Horner's scheme -/
theorem hw_q {M u : Int} {T : Nat} {τ : Rat} (hM : 0 < M) (h0 : 0 ≤ τ) (h1 : τ < 1) (ht : (u : Rat) / M ≤ τ) (ht' : -τ ≤ (u : Rat) / M) : ∀ j : Nat, j < T →
    ((hw M u T j : Int) : Rat) - M * Qs ((u : Rat) / M) (T - j) (j + 1) ≤ 1 / (1 - τ) ∧ -(1 / (1 - τ)) ≤ ((hw M u T j : Int) : Rat) - M * Qs ((u : Rat) / M) (T - j) (j + 1)
  | 0, hj => by
    obtain ⟨d1, d2⟩ := dn_q (a := M) (b := T) (by omega)
    have e : Qs ((u : Rat) / M) (T - 0) (0 + 1) = 1 / ((T : Nat) : Rat) := by
      show 1 / ((T : Nat) : Rat) - (u : Rat) / M * 0 = _
      grind
    have c : (((T : Nat) : Int) : Rat) = ((T : Nat) : Rat) := by exact_mod_cast rfl
    rw [c] at d1 d2
    have hE : (1 : Rat) ≤ 1 / (1 - τ) := q_le_div (by grind) (by grind)
    rw [e]
    show ((dn M T : Int) : Rat) - _ ≤ _ ∧ _ ≤ ((dn M T : Int) : Rat) - _
    have e2 : (M : Rat) * (1 / ((T : Nat) : Rat)) = (M : Rat) / ((T : Nat) : Rat) := by grind
    rw [e2]
    constructor <;> grind
  | j + 1, hj => by
    obtain ⟨i1, i2⟩ := hw_q (T := T) hM h0 h1 ht ht' j (by omega)
    have hk : 0 < T - (j + 1) := by omega
    obtain ⟨d1, d2⟩ := dn_q (a := M) (b := (T : Int) - 1 - j) (by omega)
    obtain ⟨f1, f2⟩ := dn_q (a := u * hw M u T j) hM
    have ck : (((T : Int) - 1 - j : Int) : Rat) = ((T - (j + 1) : Nat) : Rat) := by
      have : (T : Int) - 1 - j = ((T - (j + 1) : Nat) : Int) := by omega
      rw [this]; exact_mod_cast rfl
    have cu : ((u * hw M u T j : Int) : Rat) = (u : Rat) * ((hw M u T j : Int) : Rat) := by exact_mod_cast rfl
    rw [ck] at d1 d2
    rw [cu] at f1 f2
    have e : Qs ((u : Rat) / M) (T - (j + 1)) (j + 1 + 1) = 1 / ((T - (j + 1) : Nat) : Rat) - (u : Rat) / M * Qs ((u : Rat) / M) (T - j) (j + 1) := by
      have : T - j = T - (j + 1) + 1 := by omega
      rw [this]; rfl
    have ew : ((hw M u T (j + 1) : Int) : Rat) = ((dn M ((T : Int) - 1 - j) : Int) : Rat) - ((dn (u * hw M u T j) M : Int) : Rat) := by
      show ((dn M ((T : Int) - 1 - j) - dn (u * hw M u T j) M : Int) : Rat) = _
      exact_mod_cast rfl
    rw [ew, e]
    have hMp := int_pos hM
    have eE : 1 + τ * (1 / (1 - τ)) = 1 / (1 - τ) := by
      have : 1 - τ ≠ 0 := by grind
      grind
    have em : (u : Rat) * ((hw M u T j : Int) : Rat) / M = (u : Rat) / M * ((hw M u T j : Int) : Rat) := by grind
    rw [em] at f1 f2
    have ed : (M : Rat) / ((T - (j + 1) : Nat) : Rat) = M * (1 / ((T - (j + 1) : Nat) : Rat)) := by grind
    rw [ed] at d1 d2
    have eX : (M : Rat) * (1 / ((T - (j + 1) : Nat) : Rat) - (u : Rat) / M * Qs ((u : Rat) / M) (T - j) (j + 1)) = M * (1 / ((T - (j + 1) : Nat) : Rat)) - (u : Rat) / M * (M * Qs ((u : Rat) / M) (T - j) (j + 1)) := by grind
    rw [eX]
    generalize (M : Rat) * Qs ((u : Rat) / M) (T - j) (j + 1) = Y at *
    generalize ((hw M u T j : Int) : Rat) = W at *
    generalize ((dn M ((T : Int) - 1 - j) : Int) : Rat) = D1 at *
    generalize ((dn (u * hw M u T j) M : Int) : Rat) = D2 at *
    generalize (M : Rat) * (1 / ((T - (j + 1) : Nat) : Rat)) = M1 at *
    generalize (u : Rat) / M = t at *
    generalize 1 / (1 - τ) = E at *
    have b : t * (W - Y) ≤ τ * E ∧ -(τ * E) ≤ t * (W - Y) := by
      have a1 := q_mul_nn (show 0 ≤ τ - t by grind) (show 0 ≤ E + (W - Y) by grind)
      have a2 := q_mul_nn (show 0 ≤ τ + t by grind) (show 0 ≤ E - (W - Y) by grind)
      have a3 := q_mul_nn (show 0 ≤ τ - t by grind) (show 0 ≤ E - (W - Y) by grind)
      have a4 := q_mul_nn (show 0 ≤ τ + t by grind) (show 0 ≤ E + (W - Y) by grind)
      constructor <;> grind
    constructor <;> grind
/-- its last value -/
theorem hw_last {M u : Int} {T : Nat} {τ : Rat} (hM : 0 < M) (hT : 0 < T) (h0 : 0 ≤ τ) (h1 : τ < 1) (ht : (u : Rat) / M ≤ τ) (ht' : -τ ≤ (u : Rat) / M) :
    ((hw M u T (T - 1) : Int) : Rat) - M * Qs ((u : Rat) / M) 1 T ≤ 1 / 2 + τ / (1 - τ) ∧ -(1 / 2 + τ / (1 - τ)) ≤ ((hw M u T (T - 1) : Int) : Rat) - M * Qs ((u : Rat) / M) 1 T := by
  have hMp := int_pos hM
  have hq : (0 : Rat) ≤ τ / (1 - τ) := q_div_nn h0 (by grind)
  have d1M : dn M 1 = M := by have := dn_mul (a := M) (b := 1) (by decide); rwa [Int.one_mul] at this
  by_cases hT1 : T = 1
  · subst hT1
    have ew : hw M u ((1 : Nat) : Int) (1 - 1) = M := d1M
    rw [ew]
    have e : Qs ((u : Rat) / M) 1 1 = 1 := by
      show 1 / ((1 : Nat) : Rat) - (u : Rat) / M * 0 = 1
      grind
    rw [e]
    constructor <;> grind
  · obtain ⟨k, rfl⟩ : ∃ k, T = k + 2 := ⟨T - 2, by omega⟩
    obtain ⟨i1, i2⟩ := hw_q (T := k + 2) hM h0 h1 ht ht' k (by omega)
    obtain ⟨f1, f2⟩ := dn_q (a := u * hw M u ((k + 2 : Nat) : Int) k) hM
    have cu : ((u * hw M u ((k + 2 : Nat) : Int) k : Int) : Rat) = (u : Rat) * ((hw M u ((k + 2 : Nat) : Int) k : Int) : Rat) := by exact_mod_cast rfl
    rw [cu] at f1 f2
    have ew : ((hw M u ((k + 2 : Nat) : Int) (k + 2 - 1) : Int) : Rat) = (M : Rat) - ((dn (u * hw M u ((k + 2 : Nat) : Int) k) M : Int) : Rat) := by
      show ((dn M (((k + 2 : Nat) : Int) - 1 - k) - dn (u * hw M u ((k + 2 : Nat) : Int) k) M : Int) : Rat) = _
      rw [show ((k + 2 : Nat) : Int) - 1 - k = 1 by omega, d1M]
      exact_mod_cast rfl
    have e : Qs ((u : Rat) / M) 1 (k + 2) = 1 - (u : Rat) / M * Qs ((u : Rat) / M) 2 (k + 1) := by
      show 1 / ((1 : Nat) : Rat) - (u : Rat) / M * Qs ((u : Rat) / M) 2 (k + 1) = _
      grind
    rw [show k + 2 - k = 2 by omega] at i1 i2
    rw [ew, e]
    have em : (u : Rat) * ((hw M u ((k + 2 : Nat) : Int) k : Int) : Rat) / M = (u : Rat) / M * ((hw M u ((k + 2 : Nat) : Int) k : Int) : Rat) := by grind
    rw [em] at f1 f2
    have eX : (M : Rat) * (1 - (u : Rat) / M * Qs ((u : Rat) / M) 2 (k + 1)) = M - (u : Rat) / M * (M * Qs ((u : Rat) / M) 2 (k + 1)) := by grind
    rw [eX]
    have eT : τ / (1 - τ) = τ * (1 / (1 - τ)) := by grind
    rw [eT]
    generalize (M : Rat) * Qs ((u : Rat) / M) 2 (k + 1) = Y at *
    generalize ((hw M u ((k + 2 : Nat) : Int) k : Int) : Rat) = W at *
    generalize ((dn (u * hw M u ((k + 2 : Nat) : Int) k) M : Int) : Rat) = D2 at *
    generalize (u : Rat) / M = t at *
    generalize 1 / (1 - τ) = E at *
    have b : t * (W - Y) ≤ τ * E ∧ -(τ * E) ≤ t * (W - Y) := by
      have a1 := q_mul_nn (show 0 ≤ τ - t by grind) (show 0 ≤ E + (W - Y) by grind)
      have a2 := q_mul_nn (show 0 ≤ τ + t by grind) (show 0 ≤ E - (W - Y) by grind)
      have a3 := q_mul_nn (show 0 ≤ τ - t by grind) (show 0 ≤ E - (W - Y) by grind)
      have a4 := q_mul_nn (show 0 ≤ τ + t by grind) (show 0 ≤ E + (W - Y) by grind)
      constructor <;> grind
    constructor <;> grind
set_option maxHeartbeats 4000000
set_option linter.unusedVariables false
open_top hd for PySem.Challenge.rw_dm0263_11
structure GOk (g : GX) : Prop where
  p : g.p = hd.view_39
  ex : g.ex = (hd.heap_39 g.w.params).In
example : (recsOf hd.view_39).map (fun d => d.name.toString) = ["_sqrt_nearest", "_rshift_nearest", "_div_nearest", "_law_at", "_law_log", "_law_nearest", "law"] := by decide +kernel

abbrev stN (n a b : Int) : AS := ⟨[("a", .int a), ("b", .int b), ("n", .int n)], none⟩
theorem c_sqrt {g : GX} (hg : GOk g) {n a₀ : Int} (hn : 0 < n) (ha : 0 < a₀) : Calls g 1 "_sqrt_nearest" [.int n, .int a₀] fun v => v = .int (rt n) := by
  refine Calls_of (n := 0) (ns := [Str.ofString "n", Str.ofString "a"]) (hd := by rw [hg.p]; exact List.Mem.head _) ?_ rfl rfl (by decide) rfl rfl rfl ?_
  · intro vs pm cd doc hv
    match vs, hv with
    | [x, y], _ => rfl
  · intro A L a qual code
    repeat walk_at "mw"
    refine ifD (fun h => absurd h (by omega)) (fun _ => ?_)
    repeat walk_at "mw"
    refine ifD (fun h => absurd h (by omega)) (fun _ => ?_)
    repeat walk_at "mw"
    refine ExS_while (fun k S => ∃ a b : Int, 0 < a ∧ S = stN n a b ∧ ((b = 0 ∧ k = 2 * (ns1 n a).toNat + 2) ∨ (0 < b ∧ a = ns1 n b ∧ n ≤ a * (a + 1) ∧ k = 2 * a.toNat + if a = b then 0 else 1))) (n₀ := 2 * (ns1 n a₀).toNat + 2) (S₀ := stN n a₀ 0) (by walk_at "le") ⟨a₀, 0, ha, rfl, .inl ⟨rfl, rfl⟩⟩ ?_
    rintro k S ⟨a, b, ha, rfl, hk⟩
    have ha' : a ≠ 0 := by omega
    repeat walk_at "mw"
    refine ifN (fun hab => ?_) (fun hab => ?_)
    · repeat walk_at "mw"
      have e : (a - (-n).fdiv a).fdiv (2 ^ (1 : Int).toNat) = ns1 n a := by
        rw [Int.fdiv_eq_ediv_of_nonneg _ (by decide), Int.fdiv_eq_ediv_of_nonneg _ (by omega)]; rfl
      rw [e]
      have hp := ns1_pos ha hn
      have hh := ns1_hi ha hn
      refine ⟨stN n (ns1 n a) a, 2 * (ns1 n a).toNat + (if ns1 n a = a then 0 else 1), by walk_at "le", ?_, ns1 n a, a, hp, rfl, .inr ⟨ha, rfl, hh, rfl⟩⟩
      rcases hk with ⟨rfl, rfl⟩ | ⟨hb, _, hle, rfl⟩
      · split <;> omega
      · have := ns1_le ha hn hle
        rw [if_neg hab]
        split <;> omega
    · repeat walk_at "mw"
      rcases hk with ⟨rfl, _⟩ | ⟨hb, he, _, _⟩
      · omega
      · rw [← hab] at he
        rw [rt_eq (ns1_fix ha hn he.symm)]
theorem f_sqrt {g : GX} (hg : GOk g) : ∃ a, FnIs g "_sqrt_nearest" a := FnIs_of (by rw [hg.p]; exact List.Mem.head _)
theorem c_rsh {g : GX} (hg : GOk g) {x : Int} {k : Nat} (hk : k ≤ 100000000) : Calls g 1 "_rshift_nearest" [.int x, .int k] fun v => v = .int (dn x (2 ^ k)) := by
  refine Calls_of (n := 0) (ns := [Str.ofString "x", Str.ofString "shift"]) (hd := by rw [hg.p]; exact List.Mem.tail _ (List.Mem.head _)) ?_ rfl rfl (by decide) rfl rfl rfl ?_
  · intro vs pm cd doc hv
    match vs, hv with
    | [x, y], _ => rfl
  · intro A L a qual code
    repeat walk_at "mw"
    refine Bin_shl (by omega) (by rw [show intBits 1 = 1 from rfl]; omega) ?_
    repeat walk_at "mw"
    rw [Int.one_mul, Int.toNat_natCast]
    exact congrArg AV.int dn_walkS
theorem f_rsh {g : GX} (hg : GOk g) : ∃ a, FnIs g "_rshift_nearest" a := FnIs_of (by rw [hg.p]; exact List.Mem.tail _ (List.Mem.head _))
theorem c_div {g : GX} (hg : GOk g) {a b : Int} (hb : 0 < b) : Calls g 1 "_div_nearest" [.int a, .int b] fun v => v = .int (dn a b) := by
  refine Calls_of (n := 0) (ns := [Str.ofString "a", Str.ofString "b"]) (hd := by rw [hg.p]; exact List.Mem.tail _ (List.Mem.tail _ (List.Mem.head _))) ?_ rfl rfl (by decide) rfl rfl rfl ?_
  · intro vs pm cd doc hv
    match vs, hv with
    | [x, y], _ => rfl
  · intro A L a qual code
    have hb' : b ≠ 0 := by omega
    repeat walk_at "mw"
    exact congrArg AV.int (dn_walk hb)
theorem f_div {g : GX} (hg : GOk g) : ∃ a, FnIs g "_div_nearest" a := FnIs_of (by rw [hg.p]; exact List.Mem.tail _ (List.Mem.tail _ (List.Mem.head _)))
set_option maxHeartbeats 4000000
set_option linter.unusedVariables false
theorem f_ilog {g : GX} (hg : GOk g) : FnIs g "_ilog" 43 := by
  have at_ : ∀ h, PG g h → (hd.heap_39 g.w.params).In h := fun h p => by have := p.ex; rw [hg.ex] at this; exact this
  constructor
  · obtain ⟨h, T, hx⟩ := g.inh
    exact mg_of (at_ h ⟨T, hx⟩) T.g rfl
  · intro h p
    exact ⟨_, _, at_ h p _ _ rfl, rfl⟩
abbrev stI (y R x M L : Int) : AS := ⟨[("y", .int y), ("R", .int R), ("x", .int x), ("M", .int M), ("L", .int L)], none⟩
abbrev stW (w u y M : Int) : AS := ⟨[("w", .int w), ("yshift", .int u), ("y", .int y), ("M", .int M)], none⟩
theorem c_ilog {g : GX} (hg : GOk g) {x M : Int} {L N T : Nat} (hM : 0 < M) (hMb : M.natAbs.log2 < 1920) (hL : 0 < L) (hL2 : L ≤ 100000) (hN : N ≤ 90000000)
    (hgo : ∀ R, R < N → M * 2 ^ R ≤ ((ys M x R).natAbs : Int) * 2 ^ L) (hstop : ((ys M x N).natAbs : Int) * 2 ^ L < M * 2 ^ N)
    (hz : ∀ R, R < N → 0 < M + dn (ys M x R) (2 ^ R)) (hb : ∀ R, R ≤ N → intBits (ys M x R) ≤ 65000000)
    (hT0 : 0 < T) (hT : (T : Int) = -((-10 * ((Str.ofString (toString M)).length : Int)) / (3 * L)))
    (hw' : ∀ j, j < T → intBits (hw M (dn (ys M x N) (2 ^ N)) T j) ≤ 65000000) :
    Calls g 2 "_ilog" [.int x, .int M, .int L] fun v => v = .int (dn (hw M (dn (ys M x N) (2 ^ N)) T (T - 1) * ys M x N) M) := by
  refine ⟨43, f_ilog hg, ?_⟩
  apply CallsV_ofB (n := 1) (ns := [Str.ofString "x", Str.ofString "M", Str.ofString "L"])
  case hfd =>
    intro h p
    have X : (hd.heap_39 g.w.params).In h := by have := p.ex; rw [hg.ex] at this; exact this
    refine ⟨_, _, X 43 _ rfl, rfl, ⟨42, _, _, _, rfl, X 42 _ rfl, rfl, rfl⟩, rfl, rfl, rfl, rfl, rfl, ?_⟩
    intro vs s hs hv
    match vs, hv with
    | [x, y, z], _ => exact BindsTo.of_defaults rfl (hs ▸ X 36 _ rfl) rfl rfl rfl
  case hlen => rfl
  case hp => rfl
  case hnd => decide
  case hk => rfl
  case hgen => rfl
  case hco => rfl
  case hbody =>
    intro A Lo qual code
    refine Ex_cons (ExS_assign ?_ ⟨.inl rfl, trivial⟩)
    repeat walk_at "mw"
    refine ExS_while (fun k S => ∃ R : Nat, R ≤ N ∧ k = N - R ∧ S = stI (ys M x R) R x M L) (n₀ := N) (S₀ := stI (x - M) (0 : Nat) x M L) (by walk_at "le") ⟨0, Nat.zero_le _, rfl, rfl⟩ ?_
    rintro k S ⟨R, hR, rfl, rfl⟩
    have hyb := hb R hR
    have hab : intBits ((ys M x R).natAbs : Int) ≤ 65000000 := intBits_natAbs_le hyb
    have turn : M * 2 ^ R ≤ ((ys M x R).natAbs : Int) * 2 ^ L → R < N := by
      intro h
      apply Nat.lt_of_le_of_ne hR
      rintro rfl
      omega
    have stay : ¬ M * 2 ^ R ≤ ((ys M x R).natAbs : Int) * 2 ^ L → R = N := by
      intro h
      apply Classical.byContradiction
      intro hne
      exact h (hgo R (by omega))
    refine Tst.mono (Φ := fun b => b = decide (M * 2 ^ R ≤ ((ys M x R).natAbs : Int) * 2 ^ L)) ?_ ?_
    · generalize ys M x R = y at *
      repeat walk_at "mw"
      refine ifD (fun hRL => ?_) (fun hRL => ?_)
      · have hRL' : R ≤ L := by omega
        repeat walk_at "mw"
        rw [abs_if]
        refine Bin_shl (by omega) (by omega) ?_
        repeat walk_at "mw"
        rw [show ((L : Int) - R).toNat = L - R by omega]
        refine ifD (fun h => ?_) (fun h => ?_)
        · repeat walk_at "mw"
          exact (decide_eq_true ((go_le hRL').mp h)).symm
        · repeat walk_at "mw"
          refine ifD (fun h => by omega) (fun _ => ?_)
          repeat walk_at "mw"
          exact (decide_eq_false (fun q => h ((go_le hRL').mpr q))).symm
      · have hRL' : L < R := by omega
        repeat walk_at "mw"
        refine ifD (fun _ => ?_) (fun h => by omega)
        repeat walk_at "mw"
        rw [abs_if, show ((R : Int) - L).toNat = R - L by omega, Int.fdiv_eq_ediv_of_nonneg _ (Int.le_of_lt (two_pos _))]
        refine ifD (fun h => ?_) (fun h => ?_)
        · repeat walk_at "mw"
          exact (decide_eq_true ((go_gt hRL').mp h)).symm
        · repeat walk_at "mw"
          exact (decide_eq_false (fun q => h ((go_gt hRL').mpr q))).symm
    · rintro _ rfl
      refine ifD (fun h => ?_) (fun h => ?_)
      · have hRN := turn h
        have hMbb := log_bits hM hMb
        have hz' := hz R hRN
        have hdb := dn_bits (two_pos R) hyb
        have hsum : intBits (M + dn (ys M x R) (2 ^ R)) ≤ 65000001 := Nat.le_trans (intBits_add_le hMbb hdb) (by omega)
        have hpos : 0 < M * (M + dn (ys M x R) (2 ^ R)) := Int.mul_pos hM hz'
        have hr := rt_spec hpos
        have hrp := hr.pos
        refine Ex_cons (ExS_assign (Ev_call (n := 1) rfl (Evs_cons ?_) (Nat.le_refl _) (hg := f_div hg)) ⟨.inl rfl, trivial⟩)
        repeat walk_at "mw"
        refine Bin_mul (IntMulOk.of_le hMbb hyb (by omega)) ?_
        repeat walk_at "mw"
        refine Bin_shl (by decide) (by have := intBits_mul_le hMbb hyb; omega) ?_
        rw [show (2 : Int) ^ (1 : Int).toNat = 2 from rfl]
        refine Evs_cons (Ev_bin (Ev_name rfl (Ev_call (n := 1) rfl (Evs_cons (Ev_bin (Ev_name rfl (Ev_bin (Ev_name rfl (Ev_call (n := 1) rfl ?_ (Nat.le_refl _) (hg := f_rsh hg))))))) (Nat.le_refl _) (hg := f_sqrt hg))))
        repeat walk_at "mw"
        refine (c_rsh hg (by omega)).mono ?_
        rintro _ rfl
        repeat walk_at "mw"
        refine Bin_mul (IntMulOk.of_le hMbb hsum (by omega)) ?_
        repeat walk_at "mw"
        refine (c_sqrt hg hpos hM).mono ?_
        rintro _ rfl
        repeat walk_at "mw"
        refine (c_div hg (by omega)).mono ?_
        rintro _ rfl
        repeat walk_at "mw"
        exact ⟨stI (ys M x (R + 1)) ((R + 1 : Nat) : Int) x M L, N - (R + 1), by walk_at "le", by omega, R + 1, hRN, rfl, rfl⟩
      · obtain rfl := stay h
        have hMbb := log_bits hM hMb
        have hdig : (Str.ofString (toString M)).length ≤ 1921 := int_text_len_1921 hMb
        have hL3 : (3 : Int) * L ≠ 0 := by omega
        refine Ex_cons (ExS_assign (Ev_una (Ev_int rfl (Evs_cons (Ev_bin (Ev_bin ?_))))) ⟨.inl rfl, trivial⟩)
        repeat walk_at "mw"
        refine CallB_strI hMb ?_
        repeat walk_at "mw"
        refine CallB_lenS (show (Str.ofString (toString M)).length < 2 ^ 62 by omega) ?_
        generalize (Str.ofString (toString M)).length = dg at *
        repeat walk_at "mw"
        rw [Int.fdiv_eq_ediv_of_nonneg _ (by omega), ← hT]
        have hu := dn_bits (two_pos R) hyb
        generalize hu' : dn (ys M x R) (2 ^ R) = u at *
        refine Ev_call (n := 1) rfl ?_ (Nat.le_refl _) (hg := f_rsh hg)
        repeat walk_at "mw"
        refine (c_rsh hg (by omega)).mono ?_
        rintro _ rfl
        rw [hu']
        refine Ex_cons (ExS_assign (Ev_call (n := 1) rfl ?_ (Nat.le_refl _) (hg := f_div hg)) ⟨.inl rfl, trivial⟩)
        repeat walk_at "mw"
        refine (c_div hg (by omega)).mono ?_
        rintro _ rfl
        refine Ex_cons (ExS_for ?_)
        repeat walk_at "mw"
        have hrs : Builtin.Range.rangeSize ((T : Int) - 1) 0 (-1) = ((T - 1 : Nat) : Int) := by
          unfold Builtin.Range.rangeSize; simp; omega
        refine ⟨_, .rng _ _ _ _ hrs, fun i S' => S' = stW (hw M u T i) u (ys M x R) M, ⟨stW (dn M T) u (ys M x R) M, by walk_at "le", rfl⟩, ?_, ?_⟩
        · rintro i S' av hi rfl
          obtain ⟨hin, rfl⟩ := rngL_get hi
          refine ⟨⟨.inl rfl, trivial⟩, ?_⟩
          have hk : (0 : Int) < (T : Int) - 1 + i * -1 := by omega
          have hk' : (T : Int) - 1 + i * -1 = T - 1 - i := by omega
          rw [hk'] at hk ⊢
          refine Ex_cons (ExS_assign (Ev_bin (Ev_call (n := 1) rfl ?_ (Nat.le_refl _) (hg := f_div hg))) ⟨.inl rfl, trivial⟩)
          repeat walk_at "mw"
          refine (c_div hg hk).mono ?_
          rintro _ rfl
          refine Ev_call (n := 1) rfl ?_ (Nat.le_refl _) (hg := f_div hg)
          repeat walk_at "mw"
          refine Bin_mul (IntMulOk.of_le hu (hw' i (by omega)) (by omega)) ?_
          repeat walk_at "mw"
          refine (c_div hg hM).mono ?_
          rintro _ rfl
          repeat walk_at "mw"
          exact ⟨stW (hw M u T (i + 1)) u (ys M x R) M, by walk_at "le", rfl⟩
        · rintro S' rfl
          rw [rngL_len]
          refine Ex_cons (ExS_return (Ev_call (n := 1) rfl ?_ (Nat.le_refl _) (hg := f_div hg)))
          repeat walk_at "mw"
          refine Bin_mul (IntMulOk.of_le (hw' (T - 1) (by omega)) hyb (by omega)) ?_
          repeat walk_at "mw"
          exact c_div hg hM
set_option linter.unusedVariables false
/-- the powers of _law_log fall -/
theorem lp_fall {n m scale : Int} (hm : 0 < m) (hn : 0 ≤ n) (h3 : 3 * n ≤ m) (hs : 0 ≤ scale) : ∀ i : Nat, lp n m scale i * 2 ^ i ≤ scale
  | 0 => by
    show scale * n / m * 2 ^ 0 ≤ scale
    have : scale * n / m ≤ scale := by
      apply Int.ediv_le_of_le_mul hm
      exact Int.mul_le_mul_of_nonneg_left (by omega) hs
    rw [show (2 : Int) ^ 0 = 1 from rfl]; omega
  | i + 1 => by
    have ih := lp_fall hm hn h3 hs i
    obtain ⟨h0, _, _⟩ := lp_both hm hn h3 hs i
    have hmm : 0 < m * m := Int.mul_pos hm hm
    have k : lp n m scale (i + 1) * 2 ≤ lp n m scale i := by
      show lp n m scale i * n * n / (m * m) * 2 ≤ _
      have h1 : lp n m scale i * n * n / (m * m) * (m * m) ≤ lp n m scale i * n * n := Int.ediv_mul_le _ (by omega)
      have h2 : 2 * (n * n) ≤ m * m := by
        have : 3 * n * (3 * n) ≤ m * m := Int.mul_le_mul h3 h3 (by omega) (by omega)
        have e : 3 * n * (3 * n) = 9 * (n * n) := by grind
        have : 0 ≤ n * n := Int.mul_nonneg hn hn
        omega
      have h3 : lp n m scale i * (2 * (n * n)) ≤ lp n m scale i * (m * m) := Int.mul_le_mul_of_nonneg_left h2 h0
      refine Int.le_of_mul_le_mul_right (a := m * m) ?_ hmm
      generalize lp n m scale i * n * n / (m * m) = q at *
      grind
    have hp : (0 : Int) ≤ 2 ^ i := Int.le_of_lt (two_pos i)
    have := Int.mul_le_mul_of_nonneg_right k hp
    rw [Int.pow_succ]
    have e : lp n m scale (i + 1) * (2 ^ i * 2) = lp n m scale (i + 1) * 2 * 2 ^ i := by grind
    rw [e]; omega
/-- where the loop of _law_log ends -/
theorem lp_ends {n m scale : Int} {B : Nat} (hm : 0 < m) (hn : 0 ≤ n) (h3 : 3 * n ≤ m) (hs : 0 ≤ scale) (hB : scale < 2 ^ B) : ∃ K : Nat, K ≤ B ∧ lp n m scale K ≤ 0 ∧ ∀ i, i < K → 0 < lp n m scale i := by
  have hend : lp n m scale B ≤ 0 := by
    have h := lp_fall hm hn h3 hs B
    apply Int.not_lt.mp
    intro hpos
    have : 1 * 2 ^ B ≤ lp n m scale B * 2 ^ B := Int.mul_le_mul_of_nonneg_right (by omega) (Int.le_of_lt (two_pos B))
    omega
  have : ∀ j, j ≤ B → lp n m scale j ≤ 0 → ∃ K : Nat, K ≤ B ∧ lp n m scale K ≤ 0 ∧ ∀ i, i < K → 0 < lp n m scale i := by
    intro j
    induction j with
    | zero => intro _ h; exact ⟨0, by omega, h, fun i hi => by omega⟩
    | succ j ih =>
      intro hj h
      by_cases hp : lp n m scale j ≤ 0
      · exact ih (by omega) hp
      · refine ⟨j + 1, hj, h, fun i hi => ?_⟩
        apply Int.not_le.mp
        intro hle
        -- once nought, always nought
        have stay : ∀ k, lp n m scale (i + k) ≤ 0 := by
          intro k
          induction k with
          | zero => exact hle
          | succ k ihk =>
            show lp n m scale (i + k) * n * n / (m * m) ≤ 0
            have h0 := (lp_both hm hn h3 hs (i + k)).1
            have : lp n m scale (i + k) = 0 := by omega
            rw [this]; simp
        have := stay (j - i)
        rw [show i + (j - i) = j by omega] at this
        exact hp this
  exact this B (Nat.le_refl _) hend
/-- the last value, against the logarithm -/
theorem ser_log {N T : Nat} (hN : 0 < N) (hT : 0 < T) {M y : Int} (hM : 0 < M) (hy : 2 * (y.natAbs : Int) ≤ M) :
    ((hw M y T (T - 1) : Int) : Rat) * ((y : Rat) / M) - M * lgI N (M + y) M ≤ (y.natAbs : Rat) / M * (1 / 2 + (y.natAbs : Rat) / M / (1 - (y.natAbs : Rat) / M)) + M * (tl T ((y.natAbs : Rat) / M) + 4 / (N : Rat)) ∧
    -((y.natAbs : Rat) / M * (1 / 2 + (y.natAbs : Rat) / M / (1 - (y.natAbs : Rat) / M)) + M * (tl T ((y.natAbs : Rat) / M) + 4 / (N : Rat))) ≤ ((hw M y T (T - 1) : Int) : Rat) * ((y : Rat) / M) - M * lgI N (M + y) M := by
  have hMp := int_pos hM
  obtain ⟨t1, t2⟩ := taylor hN hM hy T
  have hya : (y : Rat) ≤ (y.natAbs : Rat) ∧ -(y.natAbs : Rat) ≤ (y : Rat) := by
    have h1 := int_le (show y ≤ (y.natAbs : Int) by omega)
    have h2 := int_le (show -(y.natAbs : Int) ≤ y by omega)
    have c : ((-(y.natAbs : Int) : Int) : Rat) = -(y.natAbs : Rat) := by exact_mod_cast rfl
    rw [c] at h2
    exact ⟨h1, h2⟩
  have hn2 : 2 * (y.natAbs : Rat) ≤ M := by
    have := int_le hy
    have c : ((2 * (y.natAbs : Int) : Int) : Rat) = 2 * (y.natAbs : Rat) := by exact_mod_cast rfl
    rw [c] at this; exact this
  have hn0 : (0 : Rat) ≤ (y.natAbs : Rat) := by grind
  have τ0 : (0 : Rat) ≤ (y.natAbs : Rat) / M := q_div_nn hn0 hMp
  have τ1 : (y.natAbs : Rat) / M ≤ 1 / 2 := q_div_le hMp (by grind)
  have k1 : (y : Rat) / M ≤ (y.natAbs : Rat) / M := q_div_le hMp (by
    have : (y.natAbs : Rat) / M * M = (y.natAbs : Rat) := by grind
    grind)
  have k2 : -((y.natAbs : Rat) / M) ≤ (y : Rat) / M := q_le_div hMp (by
    have : -((y.natAbs : Rat) / M) * M = -(y.natAbs : Rat) := by grind
    grind)
  obtain ⟨w1, w2⟩ := hw_last (T := T) hM hT τ0 (by grind) k1 k2
  have q := Qs_one ((y : Rat) / M) T
  generalize ((hw M y T (T - 1) : Int) : Rat) = W at *
  generalize Qs ((y : Rat) / M) 1 T = Q at *
  generalize Pw T (-((y : Rat) / M)) = PP at *
  generalize lgI N (M + y) M = lam at *
  generalize tl T ((y.natAbs : Rat) / M) = tt at *
  generalize (4 : Rat) / N = e at *
  have eD : (0 : Rat) ≤ (y.natAbs : Rat) / M / (1 - (y.natAbs : Rat) / M) := q_div_nn τ0 (by grind)
  generalize (y.natAbs : Rat) / M / (1 - (y.natAbs : Rat) / M) = D at *
  generalize (y.natAbs : Rat) / M = τ at *
  generalize (y : Rat) / M = t at *
  generalize (M : Rat) = m at *
  have b : t * (W - m * Q) ≤ τ * (1 / 2 + D) ∧ -(τ * (1 / 2 + D)) ≤ t * (W - m * Q) := by
    have a1 := q_mul_nn (show 0 ≤ τ - t by grind) (show 0 ≤ (1 / 2 + D) + (W - m * Q) by grind)
    have a2 := q_mul_nn (show 0 ≤ τ + t by grind) (show 0 ≤ (1 / 2 + D) - (W - m * Q) by grind)
    have a3 := q_mul_nn (show 0 ≤ τ - t by grind) (show 0 ≤ (1 / 2 + D) - (W - m * Q) by grind)
    have a4 := q_mul_nn (show 0 ≤ τ + t by grind) (show 0 ≤ (1 / 2 + D) + (W - m * Q) by grind)
    constructor <;> grind
  have m1 := q_mul_le' t1 (show 0 ≤ m by grind)
  have m2 := q_mul_le' t2 (show 0 ≤ m by grind)
  have e1 : W * t - m * lam = t * (W - m * Q) + (m * (t * Q) - m * lam) := by grind
  have e2 : m * (t * Q) = -(m * PP) := by rw [q]; grind
  have e3 : m * (lam + PP) = m * lam + m * PP := by grind
  have e4 : m * -(tt + e) = -(m * (tt + e)) := by grind
  rw [e3] at m1 m2
  rw [e4] at m2
  rw [e1, e2]
  constructor <;> grind
/-- no number is above another by every 1/N's multiple -/
theorem q_arch {a b : Rat} {C : Int} (h : ∀ N : Nat, 0 < N → a ≤ b + (C : Rat) / (N : Rat)) : a ≤ b := by
  apply Classical.byContradiction
  intro hab
  have hd : 0 < a - b := by grind
  -- 1 / (a - b) is below some N
  obtain ⟨n, hn⟩ : ∃ n : Nat, ((C.natAbs : Nat) : Rat) / (a - b) < (n : Rat) := by
    refine ⟨(((C.natAbs : Nat) : Rat) / (a - b)).floor.toNat + 1, ?_⟩
    have h1 : ((C.natAbs : Nat) : Rat) / (a - b) < ((((C.natAbs : Nat) : Rat) / (a - b)).floor : Rat) + 1 := by
      have := Rat.lt_floor (x := ((C.natAbs : Nat) : Rat) / (a - b))
      grind
    have h2 := int_le (show (((C.natAbs : Nat) : Rat) / (a - b)).floor ≤ (((((C.natAbs : Nat) : Rat) / (a - b)).floor.toNat : Nat) : Int) by omega)
    have h3 : ((((((C.natAbs : Nat) : Rat) / (a - b)).floor.toNat + 1 : Nat)) : Rat) = ((((((C.natAbs : Nat) : Rat) / (a - b)).floor.toNat : Nat) : Int) : Rat) + 1 := by exact_mod_cast rfl
    rw [h3]
    grind
  have hc0 : (0 : Rat) ≤ ((C.natAbs : Nat) : Rat) := by grind
  have hq0 : (0 : Rat) ≤ ((C.natAbs : Nat) : Rat) / (a - b) := q_div_nn hc0 hd
  have hnp : 0 < n := by
    apply Nat.pos_of_ne_zero
    rintro rfl
    have : ((0 : Nat) : Rat) = 0 := by grind
    grind
  have hN := h n hnp
  have hnr := nat_pos hnp
  have hC : (C : Rat) ≤ ((C.natAbs : Nat) : Rat) := int_le (show C ≤ (C.natAbs : Int) by omega)
  have k : (C : Rat) / n < a - b := by
    have h1 : ((C.natAbs : Nat) : Rat) < n * (a - b) := by
      have h4 := Rat.mul_pos (show 0 < (n : Rat) - ((C.natAbs : Nat) : Rat) / (a - b) by grind) hd
      have e : ((n : Rat) - ((C.natAbs : Nat) : Rat) / (a - b)) * (a - b) = n * (a - b) - ((C.natAbs : Nat) : Rat) := by grind
      rw [e] at h4
      grind
    have h2 : 0 < (n * (a - b) - C) / (n : Rat) := q_div_pos (by grind) hnr
    have e : (n * (a - b) - C) / (n : Rat) = (a - b) - (C : Rat) / n := by grind
    rw [e] at h2
    grind
  grind
variable {C : CX} {S : AS} {Ψ : AFl → AS → Prop}
theorem letGo_any {prog : Program} {w : World} {A : Around} {E : Value → Shared → Prop} {s : Shared} {elts : List Expr} {x1} {pos : Pos} {I T : Addr} {o : Obj} {n : String} {Q : Unit → Shared → Prop} (ho : s.heap.get? I = some o) (hc : o.cls = .type n) (hn : ownIters.contains n = false) (hQ : Q () s) :
    wpAny (model prog w) A (letOwnedTupleGo (.Tuple elts x1 pos) (.ref I) (.ref T)) Q E s := by
  unfold letOwnedTupleGo
  refine wpAny_bind (wpAny_load ho ?_)
  rw [hc]
  cases hd : o.data <;> try exact wpAny_pure hQ
  rename_i vs
  show wpAny _ A (if (ownIters.contains n && vs[0]? == some (rawInt T)) = true then _ else _) Q E s
  rw [if_neg (by rw [hn, Bool.false_and]; exact Bool.false_ne_true)]
  exact wpAny_pure hQ
/-- for, over names unpacked from a tuple -/
theorem ExS_forT {nps : List (Str × Pos)} {elts : List Expr} {k₀ : Nat} {tp pos : Pos} {iter : Expr} {body : List Stmt} (he : elts = nps.map fun p => Expr.Name p.1 p.2)
    (h : Ev C S iter fun av => ∃ xs, Items av xs ∧ ∃ I : Nat → AS → Prop, (∃ S₀, S.le S₀ ∧ I 0 S₀) ∧
      (∀ i S av, xs[i]? = some av → I i S → ∃ l, av = .tup l ∧ l.length = nps.length ∧ (∀ x ∈ nps, Stb C S x.1) ∧ Ex C (S.sets (nps.map (·.1)) l) body fun fl S' => match fl with
        | .next => ∃ S'', S'.le S'' ∧ I (i + 1) S''
        | .cont => ∃ S'', S'.le S'' ∧ I (i + 1) S''
        | .brk => Ψ .next S'
        | .ret v => Ψ (.ret v) S') ∧ (∀ S, I xs.length S → Ψ .next S))
    (hs : ∀ x, foldedSetIterable iter C.env x = pure x := by intro _; rfl) : ExS C S (.For (.Tuple elts k₀ tp) iter body [] pos) Ψ := by
  refine ⟨fun ok s₀ X₀ β s Q p F k => ?_⟩
  refine wpAny_For (h.go ok _ s _ _ (p.st F.keep) F.xinh F.relS fun av v h₁ t₁ st₁ rv hyp => ?_) hs
  obtain ⟨xs, hit, I, ⟨S₀, hle0, hI0⟩, hturn, hend⟩ := hyp
  refine iter_go ok hit rv fun fp P St o itr hfree => ?_
  have F₁ : FS C s₀ X₀ β S { s with heap := h₁.push o, toks := t₁ } := F.st (st₁.trans (StIn.push _ _))
  generalize hIaddr : h₁.objs.size = J at itr
  -- what is kept: relative to the heap with the iterator
  have hJ : (h₁.push o).get? J = some o := by rw [← hIaddr]; exact Heap.get?_push_size _ hfree
  have hJnone : h₁.get? J = none := by
    cases e : h₁.get? J with
    | none => rfl
    | some o' => have := Heap.lt_size e; rw [hIaddr] at this; exact absurd this (Nat.lt_irrefl _)
  have hJs : s.heap.get? J = none := by
    cases e : s.heap.get? J with
    | none => rfl
    | some o' => rw [st₁ _ _ e] at hJnone; cases hJnone
  refine codeAny_forLoop_any (fun n s' => ∃ h' tk S' β' i, s' = { s with heap := h', toks := tk } ∧ FS C s₀ X₀ β' S' s' ∧ FKeep C β s.heap h' ∧ BEv β s.heap β' ∧ (∀ b, β' = some b → β = some b ∨ (h₁.push o).get? b = none) ∧
      VKeep (β.toList ++ X₀) (h₁.push o) h' ∧ (∀ a oa, a ≠ C.env.locals → (∀ x, C.env.cells.lookup x ≠ some a) → β ≠ some a → a ≠ J → (h₁.push o).get? a = some oa → h'.get? a = some oa) ∧ St i h' ∧ i ≤ xs.length ∧ n = xs.length + 1 - i ∧ I i S') ?_ (xs.length + 1)
    ⟨h₁.push o, t₁, S₀, β, 0, rfl, F₁.weak hle0, .of (st₁.trans (StIn.push _ _)), .refl _ _, (fun b e => .inl e), .refl _ _, (fun _ _ _ _ _ _ e => e), itr.start, Nat.zero_le _, rfl, hI0⟩
  rintro n s' ⟨h', tk, S', β', i, rfl, F', fk, bv, bo, vk, lk, hst, hle, rfl, hI⟩
  -- the iterator is none of the frame's
  have hJL : J ≠ C.env.locals := by
    rintro rfl
    obtain ⟨m, hn⟩ := F.ffr.loc
    obtain ⟨o', _, _, ho', _⟩ := hn
    rw [ho'] at hJs; cases hJs
  have hJc : ∀ y, C.env.cells.lookup y ≠ some J := by
    intro y e
    obtain ⟨w, o', ho', _⟩ := F.ffr.cel y J e
    rw [ho'] at hJs; cases hJs
  have hJb : β' ≠ some J := by
    intro e
    rcases bo J e with e | e
    · obtain ⟨vs, n, ho'⟩ := F.ffr.own J e
      rw [ho'] at hJs; cases hJs
    · rw [hJ] at e; cases e
  have kp : ∀ {h'' : Heap}, (∀ b o, b ∉ [J] → h'.get? b = some o → h''.get? b = some o) → ∀ tk, FS C s₀ X₀ β' S' { s with heap := h'', toks := tk } ∧ FKeep C β s.heap h'' ∧ VKeep (β.toList ++ X₀) (h₁.push o) h'' := by
    intro h'' hk tk
    have hkJ : ∀ b o, b ≠ J → h'.get? b = some o → h''.get? b = some o := fun b o hb e => hk b o (by simpa using hb) e
    obtain ⟨oi, hoi, hnv⟩ := itr.itr i h' hst
    have vk2 : ∀ X, VKeep X h' h'' := fun X => ⟨fun a o _ hv e => hkJ a o (by rintro rfl; rw [e] at hoi; cases hoi; exact hnv hv) e, fun a o hv _ e => hkJ a o (by rintro rfl; rw [e] at hoi; cases hoi; exact hnv hv) e⟩
    refine ⟨?_, ?_, vk.trans (vk2 _)⟩
    · obtain ⟨m, cm, c⟩ := F'.call
      have hrd : ∀ y w, Rd C.env h' y w → Rd C.env h'' y w := by
        rintro y w (⟨hk', m', hn, hw⟩ | ⟨hk', c', hc', hw⟩)
        · exact .inl ⟨hk', m', hn.at' fun o e => hkJ _ o (Ne.symm hJL) e, hw⟩
        · obtain ⟨o', ho', hd'⟩ := hw
          exact .inr ⟨hk', c', hc', o', hkJ _ _ (fun q => hJc y (q ▸ hc')) ho', hd'⟩
      refine ⟨⟨m, cm, ⟨⟨?_, c.toInCall.ns.at' fun o e => hkJ _ o (Ne.symm hJL) e, fun b o e => ?_, c.toInCall.fresh⟩, fun y a e => ?_, c.apart, c.above⟩⟩, ?_, ?_, F'.xin⟩
      · obtain ⟨h₁, tk₁, e⟩ := F.same
        exact ⟨h'', tk, by rw [e]⟩
      · refine hkJ b o ?_ (c.toInCall.keep b o e)
        rintro rfl
        rw [F.keep _ _ e] at hJs; cases hJs
      · obtain ⟨o', ho', hd'⟩ := c.cell y a e
        exact ⟨o', hkJ _ _ (fun q => hJc y (q ▸ e)) ho', hd'⟩
      · exact fun y aw e => let ⟨w, h1, h2⟩ := F'.vars y aw e; ⟨w, hrd y w h1, h2.keep (vk2 _)⟩
      · have h := F'.own
        show OwnOk C s₀ X₀ h'' S'.own β'
        cases ho : S'.own with
        | none => rw [ho] at h; cases β' with | none => trivial | some _ => exact h
        | some q =>
          rw [ho] at h
          cases β' with
          | none => exact h
          | some b =>
            obtain ⟨⟨vs, ow⟩, h1⟩ := h
            exact ⟨⟨vs, hrd _ _ ow.rd, ow.inX, ow.lst.at fun o e => hkJ b o (by rintro rfl; exact hJb rfl) e, ow.rel.keep (vk2 _)⟩, h1⟩
    · intro a oa h1 h2 h3 e
      refine hkJ a oa ?_ (fk a oa h1 h2 h3 e)
      rintro rfl; rw [hJs] at e; cases e
  by_cases hlt : i < xs.length
  · refine itr.walk.item i _ _ _ hlt hst fun w h₂ t₂ hP hst₂ hk₂ => ?_
    obtain ⟨F₂, fk₂, vk₂⟩ := kp hk₂ t₂
    obtain ⟨aw, haw, raw⟩ := itr.item i w hP
    obtain ⟨lt, hlt1, hlt2, hstb, hbody⟩ := hturn i S' aw haw hI
    have rw₂ : RelV (β'.toList ++ X₀) h₂ aw w := by
      cases hb : β' with
      | none => exact (raw.keep vk₂).less fun q hq => List.mem_append_right _ (by simpa using hq)
      | some b =>
        rcases bo b hb with e | e
        · rw [← e]; exact raw.keep vk₂
        · have r1 : RelV (b :: (β.toList ++ X₀)) (h₁.push o) aw w := RelV.more e aw w raw
          have r2 := r1.keep (vk₂.sub fun q hq => List.mem_cons_of_mem _ hq)
          exact r2.less fun q hq => by
            rcases List.mem_append.mp hq with hq | hq
            · obtain rfl : q = b := by simpa using hq
              exact List.mem_cons_self
            · exact List.mem_cons_of_mem _ (List.mem_append_right _ hq)
    rw [hlt1] at rw₂
    obtain ⟨ta, tvs, rfl, htup, hrel⟩ := rw₂
    obtain ⟨oJ, nJ, hoJ, hcJ, hnJ⟩ := itr.cls _ _ hst₂
    refine letGo_any hoJ hcJ hnJ ?_
    refine unpack_go (nps := nps) ok F₂ htup hrel hlt2 hstb he fun h₃ t₃ F₃ fk₃ => ?_
    refine wpAny_mono (hbody.go ok s₀ X₀ β' _ _ p F₃ fun afl fl S₄ β₄ h₄ t₄ F₄ fk₄ bv₄ rf ψ => ?_) (fun _ _ q => q) fun _ _ q => q.elim
    have fk23 : FKeep C β' h₂ h₄ := fk₃.trans (.refl _ _) fk₄
    have fk' : FKeep C β s.heap h₄ := fk₂.trans bv fk23
    have bv24 : BEv β' h₂ β₄ := BEv.trans (.refl _ _) bv₄ fk₃ F₃.ffr
    have bv' : BEv β s.heap β₄ := bv.trans bv24 fk₂ F₂.ffr
    have hst₄ : St (i + 1) h₄ := itr.walk.frame _ _ _ hst₂ fun b hb ob e => by
      rcases itr.fps b hb with rfl | ⟨hx, oo, ho, hv⟩ | ⟨oo, ho, hv, hcl⟩
      · exact fk23 _ _ hJL hJc hJb e
      · have e2 := vk₂.off b oo hx hv ho
        rw [e] at e2; cases e2
        refine (fk23.vkeep (X₀ := X₀) F₂.ffr).off b _ (fun q => ?_) hv e
        rcases List.mem_append.mp q with q | q
        · cases hbb : β' with
          | none => rw [hbb] at q; cases q
          | some b' =>
            rw [hbb] at q
            obtain rfl : b = b' := by simpa using q
            rcases bo _ hbb with h1 | h1
            · exact hx (by rw [h1]; simp)
            · rw [ho] at h1; cases h1
        · exact hx (List.mem_append_right _ q)
      · have e2 := vk₂.imm b oo hv hcl ho
        rw [e] at e2; cases e2
        exact (fk23.vkeep (X₀ := X₀) F₂.ffr).imm b _ hv hcl e
    have vk' : VKeep (β.toList ++ X₀) (h₁.push o) h₄ := by
      have v4 := fk23.vkeep (X₀ := X₀) F₂.ffr
      refine ⟨fun a oa ha hv e => v4.off a oa (fun q => ?_) hv (vk₂.off a oa ha hv e), fun a oa hv hc e => v4.imm a oa hv hc (vk₂.imm a oa hv hc e)⟩
      rcases List.mem_append.mp q with q | q
      · cases hbb : β' with
        | none => rw [hbb] at q; cases q
        | some b' =>
          rw [hbb] at q
          obtain rfl : a = b' := by simpa using q
          rcases bo _ hbb with h1 | h1
          · exact ha (by rw [h1]; simp)
          · rw [e] at h1; cases h1
      · exact ha (List.mem_append_right _ q)
    have bo' : ∀ b, β₄ = some b → β = some b ∨ (h₁.push o).get? b = none := by
      intro b hb
      by_cases h3 : β = some b
      · exact .inl h3
      rcases bv24 b hb with e | e
      · exact bo b e
      · cases hq : (h₁.push o).get? b with
        | none => exact .inr rfl
        | some oq =>
          exfalso
          by_cases hbJ : b = J
          · subst hbJ
            obtain ⟨oi, hoi, _⟩ := itr.itr (i + 1) h₂ hst₂
            rw [hoi] at e; cases e
          · by_cases h1 : b = C.env.locals
            · obtain ⟨m, o', _, _, ho', _⟩ := F₂.ffr.loc
              rw [h1, ho'] at e; cases e
            · by_cases h2 : ∃ y, C.env.cells.lookup y = some b
              · obtain ⟨y, h2⟩ := h2
                obtain ⟨v, o', ho', _⟩ := F₂.ffr.cel y b h2
                rw [ho'] at e; cases e
              · have hkJ := hk₂ b oq (by simpa using hbJ) (lk b oq h1 (fun y hy => h2 ⟨y, hy⟩) h3 hbJ hq)
                rw [hkJ] at e; cases e
    have lk' : ∀ a oa, a ≠ C.env.locals → (∀ x, C.env.cells.lookup x ≠ some a) → β ≠ some a → a ≠ J → (h₁.push o).get? a = some oa → h₄.get? a = some oa := by
      intro a oa h1 h2 h3 h4 e
      refine fk23 a oa h1 h2 (fun hb => ?_) (hk₂ a oa (by simpa using h4) (lk a oa h1 h2 h3 h4 e))
      rcases bo a hb with q | q
      · exact h3 q
      · rw [e] at q; cases q
    have hn' : xs.length + 1 - (i + 1) < xs.length + 1 - i := by omega
    cases afl with
    | next => obtain rfl : fl = .next := rf; obtain ⟨S'', hle', hI'⟩ := ψ; exact ⟨_, hn', h₄, t₄, S'', β₄, i + 1, rfl, F₄.weak hle', fk', bv', bo', vk', lk', hst₄, hlt, rfl, hI'⟩
    | cont => obtain rfl : fl = .cont := rf; obtain ⟨S'', hle', hI'⟩ := ψ; exact ⟨_, hn', h₄, t₄, S'', β₄, i + 1, rfl, F₄.weak hle', fk', bv', bo', vk', lk', hst₄, hlt, rfl, hI'⟩
    | brk => obtain rfl : fl = .brk := rf; exact k .next .next S₄ β₄ h₄ t₄ F₄ fk' bv' rfl ψ
    | ret av => obtain ⟨v, rfl, rv⟩ := rf; exact k (.ret av) (.ret v) S₄ β₄ h₄ t₄ F₄ fk' bv' ⟨v, rfl, rv⟩ ψ
  · have hin : i = xs.length := by omega
    subst hin
    refine itr.walk.done _ _ _ hst fun h₂ t₂ hk₂ => wpAny_execs_nil ?_
    obtain ⟨F₂, fk₂, _⟩ := kp hk₂ t₂
    exact k .next .next S' β' h₂ t₂ F₂ fk₂ bv rfl (hend S' hI)
set_option maxHeartbeats 4000000
set_option linter.unusedVariables false
theorem c_at {g : GX} (hg : GOk g) {ns : List Int} {k : Nat} (hk : k < 100) (hns : ns.length ≤ 63) : Calls g 1 "_law_at" [.lst (IL ns), .int (k : Int)] fun v => ∃ a : Int, v = .int a ∧ 0 ≤ a := by
  refine Calls_of (n := 0) (ns := [Str.ofString "script", Str.ofString "place"]) (hd := by rw [hg.p]; exact List.Mem.tail _ (List.Mem.tail _ (List.Mem.tail _ (List.Mem.head _)))) ?_ rfl rfl (by decide) rfl rfl rfl ?_
  · intro vs pm cd doc hv
    match vs, hv with
    | [x, y], _ => rfl
  · intro A L ad qual code
    have hlen : (IL ns).length = ns.length := List.length_map _
    repeat walk_at "mw"
    rw [hlen]
    refine ifD (fun h => ?_) (fun h => ?_)
    · have hk' : k < ns.length := by omega
      repeat walk_at "mw"
      refine Ev_item (Ev_name rfl (Ev_name rfl (Itm_list (by omega) (by omega) (by rw [List.getElem?_map, Int.toNat_natCast, List.getElem?_eq_getElem hk']; rfl) ?_)))
      repeat walk_at "mw"
      exact ⟨_, rfl, by rw [abs_if]; omega⟩
    · repeat walk_at "mw"
      exact ⟨0, rfl, by decide⟩
theorem f_at {g : GX} (hg : GOk g) : ∃ a, FnIs g "_law_at" a := FnIs_of (by rw [hg.p]; exact List.Mem.tail _ (List.Mem.tail _ (List.Mem.tail _ (List.Mem.head _))))


abbrev stLg (p low k n m a b s : Int) : AS := ⟨[("power", .int p), ("low", .int low), ("k", .int k), ("n", .int n), ("m", .int m), ("a", .int a), ("b", .int b), ("scale", .int s)], none⟩
theorem c_log {g : GX} (hg : GOk g) {a b s : Int} {B : Nat} (hb : 0 < b) (hba : b ≤ a) (h2 : a ≤ 2 * b) (hs : 0 ≤ s) (hsB : s < 2 ^ B) (hB : B ≤ 2000) (hab : intBits a ≤ 2000) :
    Calls g 1 "_law_log" [.int a, .int b, .int s] fun v => ∃ K : Nat, K ≤ B ∧ lp (a - b) (a + b) s K ≤ 0 ∧ v = .tup [.int (ls (a - b) (a + b) s K), .int (ls (a - b) (a + b) s K + 3 * (K + 1))] := by
  refine Calls_of (n := 0) (ns := [Str.ofString "a", Str.ofString "b", Str.ofString "scale"]) (hd := by rw [hg.p]; exact List.Mem.tail _ (List.Mem.tail _ (List.Mem.tail _ (List.Mem.tail _ (List.Mem.head _))))) ?_ rfl rfl (by decide) rfl rfl rfl ?_
  · intro vs pm cd doc hv
    match vs, hv with
    | [x, y, z], _ => rfl
  · intro A L ad qual code
    obtain ⟨K, hK, hKe, hKp⟩ := lp_ends (n := a - b) (m := a + b) (by omega) (by omega) (by omega) hs hsB
    have hbb : intBits b ≤ 2000 := lt_bits (Nat.lt_of_le_of_lt (show b.natAbs ≤ a.natAbs by omega) (bits_lt hab))
    have hnb : intBits (a - b) ≤ 2001 := Nat.le_trans (intBits_sub_le hab hbb) (by decide)
    have hmb : intBits (a + b) ≤ 2001 := Nat.le_trans (intBits_add_le hab hbb) (by decide)
    have hsb : intBits s ≤ 2000 := by
      refine lt_bits (Nat.lt_of_lt_of_le (m := 2 ^ B) ?_ (Nat.pow_le_pow_right (by decide) hB))
      have e : (2 : Int) ^ B = ((2 ^ B : Nat) : Int) := by simp
      omega
    have hlpb : ∀ i, intBits (lp (a - b) (a + b) s i) ≤ 2000 := by
      intro i
      have h0 := (lp_both (n := a - b) (m := a + b) (by omega) (by omega) (by omega) hs i).1
      have h1 := lp_fall (n := a - b) (m := a + b) (by omega) (by omega) (by omega) hs i
      have h3 : lp (a - b) (a + b) s i * 1 ≤ lp (a - b) (a + b) s i * 2 ^ i := Int.mul_le_mul_of_nonneg_left (by have := two_pos i; omega) h0
      exact lt_bits (Nat.lt_of_le_of_lt (show (lp (a - b) (a + b) s i).natAbs ≤ s.natAbs by omega) (bits_lt hsb))
    have hm0 : a + b ≠ 0 := by omega
    repeat walk_at "mw"
    refine Bin_mul (IntMulOk.of_le hsb hnb (by decide)) ?_
    repeat walk_at "mw"
    rw [Int.fdiv_eq_ediv_of_nonneg _ (by omega)]
    refine ExS_while (fun k S => ∃ i : Nat, i ≤ K ∧ k = K - i ∧ S = stLg (lp (a - b) (a + b) s i) (ls (a - b) (a + b) s i) (2 * (i : Int) + 1) (a - b) (a + b) a b s) (n₀ := K) (S₀ := stLg (lp (a - b) (a + b) s 0) 0 (2 * ((0 : Nat) : Int) + 1) (a - b) (a + b) a b s) (by walk_at "le") ⟨0, Nat.zero_le _, rfl, rfl⟩ ?_
    rintro k S ⟨i, hi, rfl, rfl⟩
    repeat walk_at "mw"
    refine ifD (fun h => ?_) (fun h => ?_)
    · have hiK : i < K := by
        apply Nat.lt_of_le_of_ne hi
        rintro rfl
        omega
      have hlp := hlpb i
      have hk : 2 * (i : Int) + 1 ≠ 0 := by omega
      have hmm : (a + b) * (a + b) ≠ 0 := by
        have := Int.mul_pos (show 0 < a + b by omega) (show 0 < a + b by omega)
        omega
      generalize hX : lp (a - b) (a + b) s i = X at *
      repeat walk_at "mw"
      refine Bin_mul (IntMulOk.of_le hlp hnb (by decide)) ?_
      repeat walk_at "mw"
      refine Bin_mul (IntMulOk.of_le (Nat.le_trans (intBits_mul_le hlp hnb) (show 2000 + 2001 ≤ 5000 by decide)) hnb (by decide)) ?_
      repeat walk_at "mw"
      refine Bin_mul (IntMulOk.of_le hmb hmb (by decide)) ?_
      refine Bin_fdiv hmm ?_
      repeat walk_at "mw"
      rw [Int.fdiv_eq_ediv_of_nonneg _ (show 0 ≤ 2 * (i : Int) + 1 by omega), Int.fdiv_eq_ediv_of_nonneg _ (show 0 ≤ (a + b) * (a + b) from Int.mul_nonneg (by omega) (by omega))]
      refine ⟨stLg (lp (a - b) (a + b) s (i + 1)) (ls (a - b) (a + b) s (i + 1)) (2 * ((i + 1 : Nat) : Int) + 1) (a - b) (a + b) a b s, K - (i + 1), ?_, by omega, i + 1, hiK, rfl, rfl⟩
      have e1 : lp (a - b) (a + b) s (i + 1) = X * (a - b) * (a - b) / ((a + b) * (a + b)) := by rw [← hX]; rfl
      have e2 : ls (a - b) (a + b) s (i + 1) = ls (a - b) (a + b) s i + 2 * (X / (2 * (i : Int) + 1)) := by rw [← hX]; rfl
      have e3 : 2 * ((i + 1 : Nat) : Int) + 1 = 2 * (i : Int) + 1 + 2 := by omega
      rw [e1, e2, e3]
      walk_at "le"
    · have hiK : i = K := by
        apply Classical.byContradiction
        intro hne
        exact h (hKp i (by omega))
      subst hiK
      repeat walk_at "mw"
      rw [Int.fdiv_eq_ediv_of_nonneg _ (by decide), show (2 * (i : Int) + 1) / 2 = i by omega]
      exact ⟨i, hK, hKe, rfl⟩
theorem f_log {g : GX} (hg : GOk g) : ∃ a, FnIs g "_law_log" a := FnIs_of (by rw [hg.p]; exact List.Mem.tail _ (List.Mem.tail _ (List.Mem.tail _ (List.Mem.tail _ (List.Mem.head _)))))
set_option linter.unusedVariables false
set_option linter.unusedSimpArgs false
theorem pow10_2 (f L : Nat) (h : 10 * f ≤ 3 * L) : (10 : Int) ^ f ≤ 2 ^ L := by
  have h1 : (10 ^ f) ^ 3 ≤ (2 ^ L) ^ 3 := by
    calc (10 ^ f) ^ 3 = 1000 ^ f := by rw [← Nat.pow_mul, Nat.mul_comm, Nat.pow_mul]
      _ ≤ 1024 ^ f := Nat.pow_le_pow_left (by decide) f
      _ = 2 ^ (10 * f) := by rw [Nat.pow_mul]
      _ ≤ 2 ^ (3 * L) := Nat.pow_le_pow_right (by decide) h
      _ = (2 ^ L) ^ 3 := by rw [← Nat.pow_mul, Nat.mul_comm]
  have h2 : 10 ^ f ≤ 2 ^ L := by
    apply Nat.le_of_not_lt
    intro hl
    exact absurd h1 (Nat.not_le.mpr (Nat.pow_lt_pow_left hl (by decide)))
  have e1 : (10 : Int) ^ f = ((10 ^ f : Nat) : Int) := by simp
  have e2 : (2 : Int) ^ L = ((2 ^ L : Nat) : Int) := by simp
  omega
theorem ipow_cast (a : Int) : ∀ n : Nat, ((a ^ n : Int) : Rat) = (a : Rat) ^ n
  | 0 => by exact_mod_cast rfl
  | n + 1 => by
    rw [Int.pow_succ, Rat.pow_succ, ← ipow_cast a n]
    exact_mod_cast rfl
/-- the powers of the distance are below 1 / M -/
theorem pow_small {M X : Int} {T : Nat} {τ : Rat} (h0 : 0 ≤ τ) (hX : 0 < X) (hτ : (X : Rat) * τ ≤ 1) (hMX : M ≤ X ^ T) : (M : Rat) * τ ^ T ≤ 1 := by
  have h1 := int_le hMX
  rw [ipow_cast] at h1
  have h2 := q_mul_le h1 (q_pow_nn h0 T)
  have e : (X : Rat) ^ T * τ ^ T = ((X : Rat) * τ) ^ T := by
    clear h1 h2 hMX
    induction T with
    | zero => grind
    | succ T ih => rw [Rat.pow_succ, Rat.pow_succ, Rat.pow_succ, ← ih]; grind
  rw [e] at h2
  have hXp := int_pos hX
  have h3 := q_pow_one (q_mul_nn (by grind) h0) hτ T
  exact Rat.le_trans h2 h3
theorem hw_bits {M u : Int} {T j B : Nat} (hM : 0 < M) (hu : 2 * (u.natAbs : Int) ≤ M) (hB : intBits M ≤ B) (hj : j < T) : intBits (hw M u T j) ≤ B + 3 := by
  have hMp := int_pos hM
  have hya : (u : Rat) ≤ (u.natAbs : Rat) ∧ -(u.natAbs : Rat) ≤ (u : Rat) := by
    have h1 := int_le (show u ≤ (u.natAbs : Int) by omega)
    have h2 := int_le (show -(u.natAbs : Int) ≤ u by omega)
    have c : ((-(u.natAbs : Int) : Int) : Rat) = -(u.natAbs : Rat) := by exact_mod_cast rfl
    rw [c] at h2
    exact ⟨h1, h2⟩
  have hn2 : 2 * (u.natAbs : Rat) ≤ M := by
    have := int_le hu
    have c : ((2 * (u.natAbs : Int) : Int) : Rat) = 2 * (u.natAbs : Rat) := by exact_mod_cast rfl
    rw [c] at this; exact this
  have k1 : (u : Rat) / M ≤ 1 / 2 := q_div_le hMp (by grind)
  have k2 : -(1 / 2) ≤ (u : Rat) / M := q_le_div hMp (by grind)
  obtain ⟨w1, w2⟩ := hw_q (T := T) hM (show (0 : Rat) ≤ 1 / 2 by grind) (by grind) k1 k2 j hj
  obtain ⟨q1, q2⟩ := Qs_abs (show (0 : Rat) ≤ 1 / 2 by grind) (by grind) k1 k2 (j + 1) (T - j) (by omega)
  have e2 : (1 : Rat) / (1 - 1 / 2) = 2 := by grind
  rw [e2] at w1 w2 q1 q2
  have m1 := q_mul_le' q1 (show (0 : Rat) ≤ M by grind)
  have m2 := q_mul_le' q2 (show (0 : Rat) ≤ M by grind)
  have f1 : ((hw M u T j : Int) : Rat) ≤ ((2 * M + 2 : Int) : Rat) := by
    have c : ((2 * M + 2 : Int) : Rat) = 2 * (M : Rat) + 2 := by exact_mod_cast rfl
    rw [c]; grind
  have f2 : ((-(2 * M + 2) : Int) : Rat) ≤ ((hw M u T j : Int) : Rat) := by
    have c : ((-(2 * M + 2) : Int) : Rat) = -(2 * (M : Rat) + 2) := by exact_mod_cast rfl
    rw [c]; grind
  have g1 := Rat.intCast_le_intCast.mp f1
  have g2 := Rat.intCast_le_intCast.mp f2
  have hMb := bits_lt hB
  refine lt_bits ?_
  rw [Nat.pow_add]
  omega
/-- the number of figures -/
theorem figures {M : Int} (hM : 0 < M) : ∃ f : Nat, 0 < f ∧ (10 : Int) ^ (f - 1) ≤ M ∧ M < 10 ^ f := by
  have big : ∀ n : Nat, (n : Int) < 10 ^ n := by
    intro n
    induction n with
    | zero => decide
    | succ n ih => rw [Int.pow_succ]; omega
  have key : ∀ f : Nat, M < 10 ^ f → ∃ f : Nat, 0 < f ∧ (10 : Int) ^ (f - 1) ≤ M ∧ M < 10 ^ f := by
    intro f
    induction f with
    | zero => intro h; rw [show (10 : Int) ^ 0 = 1 from rfl] at h; omega
    | succ f ih =>
      intro h
      by_cases hf : M < 10 ^ f
      · exact ih hf
      · exact ⟨f + 1, by omega, by simpa using hf, h⟩
  have := big M.toNat
  exact key M.toNat (by omega)
theorem c09 {τ : Rat} {L T : Nat} (h0 : 0 ≤ τ) (hL : 2 ≤ L) (hτ : (((2 : Int) ^ L : Int) : Rat) * τ ≤ 1) (h2 : L = 2 → 8 ≤ T) (h3 : L = 3 → 5 ≤ T) (hT : 2 ≤ T) :
    1 / 2 + τ / (1 - τ) + 1 / (((T : Rat) + 1) * (1 - τ)) ≤ 99 / 100 := by
  have key : ∀ (a b : Rat), 0 < a → 0 < b → τ ≤ a → a < 1 → b ≤ (T : Rat) + 1 → 1 / 2 + a / (1 - a) + 1 / (b * (1 - a)) ≤ 99 / 100 → 1 / 2 + τ / (1 - τ) + 1 / (((T : Rat) + 1) * (1 - τ)) ≤ 99 / 100 := by
    intro a b ha hb hta ha1 hbT h
    have k1 : τ / (1 - τ) ≤ a / (1 - a) := by
      refine q_div_le (by grind) ?_
      have e : a / (1 - a) * (1 - τ) = (a * (1 - τ)) / (1 - a) := by grind
      rw [e]
      exact q_le_div (by grind) (by grind)
    have k2 : 1 / (((T : Rat) + 1) * (1 - τ)) ≤ 1 / (b * (1 - a)) := by
      have p1 := Rat.mul_pos hb (show 0 < 1 - a by grind)
      have hT0 : (0 : Rat) ≤ (T : Rat) := by grind
      have p2 : b * (1 - a) ≤ ((T : Rat) + 1) * (1 - τ) := by
        have m1 := q_mul_le hbT (show 0 ≤ 1 - a by grind)
        have m2 := q_mul_le' (show 1 - a ≤ 1 - τ by grind) (show (0 : Rat) ≤ (T : Rat) + 1 by grind)
        exact Rat.le_trans m1 m2
      refine q_div_le (by grind) ?_
      have e : 1 / (b * (1 - a)) * (((T : Rat) + 1) * (1 - τ)) = (((T : Rat) + 1) * (1 - τ)) / (b * (1 - a)) := by grind
      rw [e]
      exact q_le_div p1 (by grind)
    grind
  have hTr : ∀ n : Nat, n ≤ T → (n : Rat) + 1 ≤ (T : Rat) + 1 := fun n hn => by have := nat_le hn; grind
  rcases Nat.lt_or_ge L 4 with hl | hl
  · rcases (show L = 2 ∨ L = 3 by omega) with rfl | rfl
    · have c : (((2 : Int) ^ 2 : Int) : Rat) = 4 := by exact_mod_cast rfl
      rw [c] at hτ
      refine key (1 / 4) 9 (by grind) (by grind) (by grind) (by grind) ?_ (by grind)
      have := hTr 8 (h2 rfl)
      have e : ((8 : Nat) : Rat) = 8 := by exact_mod_cast rfl
      grind
    · have c : (((2 : Int) ^ 3 : Int) : Rat) = 8 := by exact_mod_cast rfl
      rw [c] at hτ
      refine key (1 / 8) 6 (by grind) (by grind) (by grind) (by grind) ?_ (by grind)
      have := hTr 5 (h3 rfl)
      have e : ((5 : Nat) : Rat) = 5 := by exact_mod_cast rfl
      grind
  · refine key (1 / 16) 3 (by grind) (by grind) ?_ (by grind) ?_ (by grind)
    · have h16 : (16 : Int) ≤ 2 ^ L := by
        have e : (2 : Int) ^ L = ((2 ^ L : Nat) : Int) := by simp
        have := Nat.pow_le_pow_right (n := 2) (by decide) hl
        rw [e]
        omega
      have h1 := int_le h16
      have e : ((16 : Int) : Rat) = 16 := by exact_mod_cast rfl
      rw [e] at h1
      have := q_mul_le h1 h0
      grind
    · have := hTr 2 hT
      have e : ((2 : Nat) : Rat) = 2 := by exact_mod_cast rfl
      grind
theorem p09 {L T K len : Nat} {M y : Int} (hL : 2 ≤ L) (hM : 1000000 * 2 ^ L < M) (hd : (y.natAbs : Int) * 2 ^ L < M) (hT0 : 0 < T) (hlen : M < 10 ^ len) (hT : 10 * len ≤ 3 * (L * T)) (hK : K ≤ 2000)
    (hKe : lp (max (M + y) M - min (M + y) M) (max (M + y) M + min (M + y) M) (M * (2 ^ L * 1048576)) K ≤ 0) :
    (if 0 < y then dn (hw M y T (T - 1) * y) M * (2 ^ L * 1048576) else -dn (hw M y T (T - 1) * y) M * (2 ^ L * 1048576)) - ls (max (M + y) M - min (M + y) M) (max (M + y) M + min (M + y) M) (M * (2 ^ L * 1048576)) K < 2 ^ L * 524288 + 1048576 ∧
    ls (max (M + y) M - min (M + y) M) (max (M + y) M + min (M + y) M) (M * (2 ^ L * 1048576)) K + 3 * (K + 1) - (if 0 < y then dn (hw M y T (T - 1) * y) M * (2 ^ L * 1048576) else -dn (hw M y T (T - 1) * y) M * (2 ^ L * 1048576)) < 2 ^ L * 524288 + 1048576 := by
  have hX := two_pos L
  have hX4 : (4 : Int) ≤ 2 ^ L := by
    have e : (2 : Int) ^ L = ((2 ^ L : Nat) : Int) := by simp
    have := Nat.pow_le_pow_right (n := 2) (by decide) hL
    rw [e]; omega
  have hMp : 0 < M := by omega
  have h10 := pow10_2 len (L * T) hT
  have hMX : M ≤ (2 ^ L) ^ T := by rw [← Int.pow_mul]; omega
  have hT2 : 2 ≤ T := by
    apply Nat.le_of_not_lt
    intro hlt
    have : T = 1 := by omega
    subst this
    rw [show ((2 : Int) ^ L) ^ 1 = 2 ^ L by rw [Int.pow_succ]; simp] at hMX
    omega
  have hT8 : L = 2 → 8 ≤ T := by
    rintro rfl
    apply Nat.le_of_not_lt
    intro hlt
    have : ((2 : Int) ^ 2) ^ T ≤ ((2 : Int) ^ 2) ^ 7 := by
      have := Nat.pow_le_pow_right (n := 4) (by decide) (show T ≤ 7 by omega)
      have e1 : ((2 : Int) ^ 2) ^ T = ((4 ^ T : Nat) : Int) := by simp
      have e2 : ((2 : Int) ^ 2) ^ 7 = ((4 ^ 7 : Nat) : Int) := by decide
      rw [e1, e2]; exact Int.ofNat_le.mpr this
    have : ((2 : Int) ^ 2) ^ 7 = 16384 := by decide
    omega
  have hT5 : L = 3 → 5 ≤ T := by
    rintro rfl
    apply Nat.le_of_not_lt
    intro hlt
    have : ((2 : Int) ^ 3) ^ T ≤ ((2 : Int) ^ 3) ^ 4 := by
      have := Nat.pow_le_pow_right (n := 8) (by decide) (show T ≤ 4 by omega)
      have e1 : ((2 : Int) ^ 3) ^ T = ((8 ^ T : Nat) : Int) := by simp
      have e2 : ((2 : Int) ^ 3) ^ 4 = ((8 ^ 4 : Nat) : Int) := by decide
      rw [e1, e2]; exact Int.ofNat_le.mpr this
    have : ((2 : Int) ^ 3) ^ 4 = 4096 := by decide
    omega
  have hy2 : 2 * (y.natAbs : Int) ≤ M := by
    have : (y.natAbs : Int) * 4 ≤ (y.natAbs : Int) * 2 ^ L := Int.mul_le_mul_of_nonneg_left hX4 (by omega)
    omega
  have hMr := int_pos hMp
  have hyr : (0 : Rat) ≤ (y.natAbs : Rat) := by grind
  have τ0 : (0 : Rat) ≤ (y.natAbs : Rat) / M := q_div_nn hyr hMr
  have τX : (((2 : Int) ^ L : Int) : Rat) * ((y.natAbs : Rat) / M) ≤ 1 := by
    have h1 := int_le (show (y.natAbs : Int) * 2 ^ L ≤ M by omega)
    have c : (((y.natAbs : Int) * 2 ^ L : Int) : Rat) = (y.natAbs : Rat) * (((2 : Int) ^ L : Int) : Rat) := by exact_mod_cast rfl
    rw [c] at h1
    have e : (((2 : Int) ^ L : Int) : Rat) * ((y.natAbs : Rat) / M) = (y.natAbs : Rat) * (((2 : Int) ^ L : Int) : Rat) / M := by grind
    rw [e]
    exact q_div_le hMr (by grind)
  have hc := c09 τ0 hL τX hT8 hT5 hT2
  have hps := pow_small τ0 hX τX hMX
  have τ1 : (y.natAbs : Rat) / M < 1 := by
    have h1 := int_le hX4
    have e : ((4 : Int) : Rat) = 4 := by exact_mod_cast rfl
    rw [e] at h1
    have := q_mul_le h1 τ0
    grind
  -- the sizes as rationals
  obtain ⟨d1, d2⟩ := dn_q (a := hw M y T (T - 1) * y) hMp
  have cw : ((hw M y T (T - 1) * y : Int) : Rat) / M = ((hw M y T (T - 1) : Int) : Rat) * ((y : Rat) / M) := by
    have : ((hw M y T (T - 1) * y : Int) : Rat) = ((hw M y T (T - 1) : Int) : Rat) * (y : Rat) := by exact_mod_cast rfl
    rw [this]; grind
  rw [cw] at d1 d2
  have hBp : 0 < min (M + y) M := by omega
  have hBA : min (M + y) M ≤ max (M + y) M := by omega
  have hA2 : max (M + y) M ≤ 2 * min (M + y) M := by omega
  have hsc : (0 : Int) ≤ M * (2 ^ L * 1048576) := Int.mul_nonneg (by omega) (by omega)
  -- the two bounds for every N
  have main : ∀ N : Nat, 0 < N →
      (((if 0 < y then dn (hw M y T (T - 1) * y) M * (2 ^ L * 1048576) else -dn (hw M y T (T - 1) * y) M * (2 ^ L * 1048576) : Int) : Rat) - ((ls (max (M + y) M - min (M + y) M) (max (M + y) M + min (M + y) M) (M * (2 ^ L * 1048576)) K : Int) : Rat) ≤ (((2 : Int) ^ L : Int) : Rat) * 524288 + 1048576 * (99 / 100) + 3 * ((K : Rat) + 1) + ((16 * (M * (2 ^ L * 1048576)) : Int) : Rat) / (N : Rat)) ∧
      (((ls (max (M + y) M - min (M + y) M) (max (M + y) M + min (M + y) M) (M * (2 ^ L * 1048576)) K : Int) : Rat) - ((if 0 < y then dn (hw M y T (T - 1) * y) M * (2 ^ L * 1048576) else -dn (hw M y T (T - 1) * y) M * (2 ^ L * 1048576) : Int) : Rat) ≤ (((2 : Int) ^ L : Int) : Rat) * 524288 + 1048576 * (99 / 100) + ((16 * (M * (2 ^ L * 1048576)) : Int) : Rat) / (N : Rat)) := by
    intro N hN
    obtain ⟨s1, s2⟩ := ser_log (T := T) hN hT0 hMp hy2
    obtain ⟨l1, l2⟩ := ls_log (N := N) hN hBp hBA hA2 hsc hKe
    have hNr := nat_pos hN
    have csc : ((M * (2 ^ L * 1048576) : Int) : Rat) = (M : Rat) * ((((2 : Int) ^ L : Int) : Rat) * 1048576) := by simp only [Rat.intCast_mul, Rat.intCast_add, Rat.intCast_sub, Rat.intCast_neg, Rat.intCast_ofNat, Rat.intCast_natCast]
    have c16 : ((16 * (M * (2 ^ L * 1048576)) : Int) : Rat) = 16 * ((M : Rat) * ((((2 : Int) ^ L : Int) : Rat) * 1048576)) := by simp only [Rat.intCast_mul, Rat.intCast_add, Rat.intCast_sub, Rat.intCast_neg, Rat.intCast_ofNat, Rat.intCast_natCast]
    rw [csc] at l1 l2
    rw [c16]
    have cs : ((if 0 < y then dn (hw M y T (T - 1) * y) M * (2 ^ L * 1048576) else -dn (hw M y T (T - 1) * y) M * (2 ^ L * 1048576) : Int) : Rat) = (if 0 < y then ((dn (hw M y T (T - 1) * y) M : Int) : Rat) else -((dn (hw M y T (T - 1) * y) M : Int) : Rat)) * ((((2 : Int) ^ L : Int) : Rat) * 1048576) := by
      split <;> simp only [Rat.intCast_mul, Rat.intCast_add, Rat.intCast_sub, Rat.intCast_neg, Rat.intCast_ofNat, Rat.intCast_natCast]
    have cl : lgI N (max (M + y) M) (min (M + y) M) = if 0 < y then lgI N (M + y) M else -lgI N (M + y) M := by
      split
      · rename_i h
        rw [Int.max_eq_left (by omega), Int.min_eq_right (by omega)]
      · rename_i h
        rw [Int.max_eq_right (by omega), Int.min_eq_left (by omega)]
        unfold lgI lg; grind
    rw [cl] at l1 l2
    rw [cs]
    have hXr := int_pos hX
    -- times X
    have eT : (M : Rat) * tl T ((y.natAbs : Rat) / M) = (M : Rat) * ((y.natAbs : Rat) / M) ^ T * ((y.natAbs : Rat) / M) * (1 / (((T : Rat) + 1) * (1 - (y.natAbs : Rat) / M))) := by
      unfold tl
      rw [Rat.pow_succ]; grind
    have hTr : (0 : Rat) ≤ (T : Rat) := by grind
    have hD0 : (0 : Rat) ≤ 1 / (((T : Rat) + 1) * (1 - (y.natAbs : Rat) / M)) := q_div_nn (by grind) (Rat.mul_pos (by grind) (by grind))
    have hE0 : (0 : Rat) ≤ (y.natAbs : Rat) / M / (1 - (y.natAbs : Rat) / M) := q_div_nn τ0 (by grind)
    have e4 : (4 : Rat) / N = 4 * (1 / N) := by grind
    have e12 : (12 : Rat) / N = 12 * (1 / N) := by grind
    have e16 : 16 * ((M : Rat) * ((((2 : Int) ^ L : Int) : Rat) * 1048576)) / (N : Rat) = 16 * (((M : Rat) * ((((2 : Int) ^ L : Int) : Rat) * 1048576)) * (1 / N)) := by grind
    rw [e4] at s1 s2
    rw [e12] at l1 l2
    rw [e16]
    have mE : (M : Rat) * (tl T ((y.natAbs : Rat) / M) + 4 * (1 / N)) = (M : Rat) * tl T ((y.natAbs : Rat) / M) + 4 * (M * (1 / N)) := by grind
    rw [mE, eT] at s1 s2
    have hpsn : (0 : Rat) ≤ (M : Rat) * ((y.natAbs : Rat) / M) ^ T := q_mul_nn (by grind) (q_pow_nn τ0 T)
    generalize (M : Rat) * ((y.natAbs : Rat) / M) ^ T = U at *
    generalize (1 : Rat) / (((T : Rat) + 1) * (1 - (y.natAbs : Rat) / M)) = D at *
    generalize (y.natAbs : Rat) / M / (1 - (y.natAbs : Rat) / M) = V at *
    generalize (y.natAbs : Rat) / M = τ at *
    generalize (((2 : Int) ^ L : Int) : Rat) = X at *
    generalize ((ls (max (M + y) M - min (M + y) M) (max (M + y) M + min (M + y) M) (M * (2 ^ L * 1048576)) K : Int) : Rat) = SS at *
    generalize ((hw M y T (T - 1) : Int) : Rat) * ((y : Rat) / M) = W at *
    generalize ((dn (hw M y T (T - 1) * y) M : Int) : Rat) = dd at *
    generalize lgI N (M + y) M = lam at *
    have hn0 : (0 : Rat) < 1 / N := q_div_pos (by grind) hNr
    generalize (1 : Rat) / N = e at *
    generalize (M : Rat) = m at *
    -- X (τ (1/2 + V) + U τ D) <= 99/100
    have k1 : X * (τ * (1 / 2 + V) + U * τ * D) ≤ 99 / 100 := by
      have a1 : X * (τ * (1 / 2 + V) + U * τ * D) = (X * τ) * (1 / 2 + V) + U * ((X * τ) * D) := by grind
      have a2 := q_mul_le τX (show 0 ≤ 1 / 2 + V by grind)
      have a3 := q_mul_le τX hD0
      have a5 := q_mul_nn (q_mul_nn (show 0 ≤ X by grind) τ0) hD0
      have a4 := q_mul_le hps a5
      rw [a1]
      grind
    have e99 : X * 1048576 * (τ * (1 / 2 + V) + (U * τ * D + 4 * (m * e))) = 1048576 * (X * (τ * (1 / 2 + V) + U * τ * D)) + 4 * (m * (X * 1048576) * e) := by grind
    have hXf : 0 ≤ X * 1048576 := by grind
    have g1 := q_mul_le' (show dd - m * lam ≤ 1 / 2 + (τ * (1 / 2 + V) + (U * τ * D + 4 * (m * e))) by grind) hXf
    have g2 := q_mul_le' (show -(1 / 2 + (τ * (1 / 2 + V) + (U * τ * D + 4 * (m * e)))) ≤ dd - m * lam by grind) hXf
    have x1 : X * 1048576 * (dd - m * lam) = dd * (X * 1048576) - m * (X * 1048576) * lam := by grind
    have x2 : X * 1048576 * (1 / 2 + (τ * (1 / 2 + V) + (U * τ * D + 4 * (m * e)))) = X * 524288 + X * 1048576 * (τ * (1 / 2 + V) + (U * τ * D + 4 * (m * e))) := by grind
    have x3 : X * 1048576 * -(1 / 2 + (τ * (1 / 2 + V) + (U * τ * D + 4 * (m * e)))) = -(X * 524288 + X * 1048576 * (τ * (1 / 2 + V) + (U * τ * D + 4 * (m * e)))) := by grind
    rw [x1, x2, e99] at g1
    rw [x1, x3, e99] at g2
    split at l1
    · rename_i h
      rw [if_pos h] at l2 ⊢
      have y1 : m * (X * 1048576) * (lam + 12 * e) = m * (X * 1048576) * lam + 12 * (m * (X * 1048576) * e) := by grind
      have y2 : m * (X * 1048576) * (lam - 12 * e) = m * (X * 1048576) * lam - 12 * (m * (X * 1048576) * e) := by grind
      rw [y1] at l1
      rw [y2] at l2
      constructor <;> grind
    · rename_i h
      rw [if_neg h] at l2 ⊢
      have y1 : m * (X * 1048576) * (-lam + 12 * e) = -(m * (X * 1048576) * lam) + 12 * (m * (X * 1048576) * e) := by grind
      have y2 : m * (X * 1048576) * (-lam - 12 * e) = -(m * (X * 1048576) * lam) - 12 * (m * (X * 1048576) * e) := by grind
      rw [y1] at l1
      rw [y2] at l2
      constructor <;> grind
  have A1 := q_arch (fun N hN => (main N hN).1)
  have A2 := q_arch (fun N hN => (main N hN).2)
  clear main
  have hKr : (K : Rat) ≤ 2000 := by
    have := nat_le hK
    have e : ((2000 : Nat) : Rat) = 2000 := by exact_mod_cast rfl
    rw [e] at this; exact this
  generalize hS : (if 0 < y then dn (hw M y T (T - 1) * y) M * (2 ^ L * 1048576) else -dn (hw M y T (T - 1) * y) M * (2 ^ L * 1048576) : Int) = size at *
  generalize ls (max (M + y) M - min (M + y) M) (max (M + y) M + min (M + y) M) (M * (2 ^ L * 1048576)) K = low at *
  generalize (2 : Int) ^ L = X at *
  have fin1 : ((size - low : Int) : Rat) < ((X * 524288 + 1048576 : Int) : Rat) := by
    have c1 : ((size - low : Int) : Rat) = (size : Rat) - (low : Rat) := by exact_mod_cast rfl
    have c2 : ((X * 524288 + 1048576 : Int) : Rat) = (X : Rat) * 524288 + 1048576 := by simp only [Rat.intCast_mul, Rat.intCast_add, Rat.intCast_sub, Rat.intCast_neg, Rat.intCast_ofNat, Rat.intCast_natCast]
    rw [c1, c2]; grind
  have fin2 : ((low + 3 * (K + 1) - size : Int) : Rat) < ((X * 524288 + 1048576 : Int) : Rat) := by
    have c1 : ((low + 3 * (K + 1) - size : Int) : Rat) = (low : Rat) + 3 * ((K : Rat) + 1) - (size : Rat) := by
      simp only [Rat.intCast_mul, Rat.intCast_add, Rat.intCast_sub, Rat.intCast_neg, Rat.intCast_ofNat, Rat.intCast_natCast]
    have c2 : ((X * 524288 + 1048576 : Int) : Rat) = (X : Rat) * 524288 + 1048576 := by simp only [Rat.intCast_mul, Rat.intCast_add, Rat.intCast_sub, Rat.intCast_neg, Rat.intCast_ofNat, Rat.intCast_natCast]
    rw [c1, c2]; grind
  exact ⟨Rat.intCast_lt_intCast.mp fin1, Rat.intCast_lt_intCast.mp fin2⟩
set_option linter.unusedVariables false
set_option linter.unusedSimpArgs false
theorem dn_cancel {a b c : Int} (hb : 0 < b) (hc : 0 < c) : dn (a * c) (b * c) = dn a b := by
  obtain ⟨h1, h2, h3, h4⟩ := dn_spec (a := a) hb
  have hbc := Int.mul_pos hb hc
  generalize hq : dn a b = q at *
  have e : 2 * (a * c - b * c * q) = 2 * (a - b * q) * c := by grind
  have e1 : -(b * c) = -b * c := by grind
  refine dn_uniq hbc ?_ ?_ ?_ ?_
  · rw [e, e1]; exact Int.mul_le_mul_of_nonneg_right h1 (by omega)
  · rw [e]; exact Int.mul_le_mul_of_nonneg_right h2 (by omega)
  · intro h; rw [e] at h; exact h3 (Int.eq_of_mul_eq_mul_right (by omega) h)
  · intro h; rw [e, e1] at h; exact h4 (Int.eq_of_mul_eq_mul_right (by omega) h)
/-- the yshift is at most half the scale -/
theorem dn_half {M y : Int} {N L : Nat} (hM : 0 < M) (hL : 0 < L) (h : (y.natAbs : Int) * 2 ^ L < M * 2 ^ N) : 2 * ((dn y (2 ^ N)).natAbs : Int) ≤ M := by
  have hP := two_pos N
  obtain ⟨h1, h2, _, _⟩ := dn_spec (a := y) hP
  have hL2 : (2 : Int) ≤ 2 ^ L := by
    have e : (2 : Int) ^ L = ((2 ^ L : Nat) : Int) := by simp
    have := Nat.pow_le_pow_right (n := 2) (by decide) (show 1 ≤ L from hL)
    rw [e]; omega
  have h3 : (y.natAbs : Int) * 2 ≤ (y.natAbs : Int) * 2 ^ L := Int.mul_le_mul_of_nonneg_left hL2 (by omega)
  generalize dn y (2 ^ N) = u at *
  generalize (2 : Int) ^ N = P at *
  apply Int.not_lt.mp
  intro hlt
  rcases Int.le_total 0 u with hu | hu
  · have : P * (M + 1) ≤ P * (2 * u) := Int.mul_le_mul_of_nonneg_left (by omega) (by omega)
    have e : P * (M + 1) = M * P + P := by grind
    have e2 : P * (2 * u) = 2 * (P * u) := by grind
    omega
  · have : P * (2 * u) ≤ P * (-(M + 1)) := Int.mul_le_mul_of_nonneg_left (by omega) (by omega)
    have e : P * (-(M + 1)) = -(M * P) - P := by grind
    have e2 : P * (2 * u) = 2 * (P * u) := by grind
    omega
/-- the count of rows -/
theorem rows_T {f L : Nat} (hf : 0 < f) (hL : 0 < L) : ∃ T : Nat, 0 < T ∧ (T : Int) = -((-10 * (f : Int)) / (3 * L)) ∧ 10 * f ≤ 3 * (L * T) := by
  have hL3 : (0 : Int) < 3 * L := by omega
  have hdm := Int.mul_ediv_add_emod (-10 * (f : Int)) (3 * L)
  have hm0 := Int.emod_nonneg (-10 * (f : Int)) (show (3 * (L : Int)) ≠ 0 by omega)
  have hm1 := Int.emod_lt_of_pos (-10 * (f : Int)) hL3
  have hneg : (-10 * (f : Int)) / (3 * L) < 0 := Int.ediv_neg_of_neg_of_pos (by omega) hL3
  obtain ⟨T, hT⟩ : ∃ T : Nat, (T : Int) = -((-10 * (f : Int)) / (3 * L)) := ⟨(-((-10 * (f : Int)) / (3 * L))).toNat, by omega⟩
  refine ⟨T, by omega, hT, ?_⟩
  have e : (3 * (L : Int)) * ((-10 * (f : Int)) / (3 * L)) = -(3 * ((L : Int) * T)) := by
    rw [show (-10 * (f : Int)) / (3 * L) = -(T : Int) by omega]; grind
  rw [e] at hdm
  have e2 : ((3 * (L * T) : Nat) : Int) = 3 * ((L : Int) * T) := by simp
  omega
-- the numbers of law 11
/-- M (p/r)^(2^i) -/
def qi (c p r : Int) (L i : Nat) : Int := c * p ^ 2 ^ i * r ^ (2 ^ (L + 1) - 2 ^ i)
theorem qi_sq {c p r : Int} {L i : Nat} (hi : i + 1 ≤ L + 1) : c * r ^ 2 ^ (L + 1) * qi c p r L (i + 1) = qi c p r L i * qi c p r L i := by
  have h1 : 2 ^ (i + 1) ≤ 2 ^ (L + 1) := Nat.pow_le_pow_right (by decide) hi
  have h2 : 2 ^ (i + 1) = 2 ^ i + 2 ^ i := by rw [Nat.pow_succ]; omega
  unfold qi
  have e1 : r ^ 2 ^ (L + 1) * r ^ (2 ^ (L + 1) - 2 ^ (i + 1)) = r ^ (2 ^ (L + 1) - 2 ^ i) * r ^ (2 ^ (L + 1) - 2 ^ i) := by
    rw [← Int.pow_add, ← Int.pow_add]; congr 1
    generalize 2 ^ (L + 1) = u at *
    generalize 2 ^ (i + 1) = v at *
    generalize 2 ^ i = w at *
    omega
  have e2 : p ^ 2 ^ (i + 1) = p ^ 2 ^ i * p ^ 2 ^ i := by rw [← Int.pow_add, ← h2]
  rw [e2]
  generalize p ^ 2 ^ i = P at *
  generalize r ^ (2 ^ (L + 1) - 2 ^ (i + 1)) = R1 at *
  generalize r ^ (2 ^ (L + 1) - 2 ^ i) = R2 at *
  generalize r ^ 2 ^ (L + 1) = R3 at *
  calc c * R3 * (c * (P * P) * R1) = c * c * (P * P) * (R3 * R1) := by grind
    _ = c * c * (P * P) * (R2 * R2) := by rw [e1]
    _ = _ := by grind
theorem qi_pos {c p r : Int} {L i : Nat} (hc : 0 < c) (hp : 0 < p) (hr : 0 < r) : 0 < qi c p r L i := Int.mul_pos (Int.mul_pos hc (Int.pow_pos hp)) (Int.pow_pos hr)
theorem qi_zero {c p r : Int} {L : Nat} : qi c p r L 0 = c * p * r ^ (2 ^ (L + 1) - 1) := by
  unfold qi
  rw [show (2 : Nat) ^ 0 = 1 from rfl, show p ^ 1 = p by rw [Int.pow_succ]; simp]
theorem M_eq {c r : Int} {L : Nat} : c * r ^ 2 ^ (L + 1) = c * r ^ (2 ^ (L + 1) - 1) * r := by
  have : 0 < 2 ^ (L + 1) := Nat.pow_pos (by decide)
  rw [Int.mul_assoc, ← Int.pow_succ]; congr 2; omega
/-- the halvings lose nothing -/
theorem ys_exact {c p r : Int} {L j : Nat} (hc : 0 < c) (hp : 0 < p) (hr : 0 < r) (hj : j ≤ L + 1) : ∀ R : Nat, R ≤ j →
    ys (c * r ^ 2 ^ (L + 1)) (qi c p r L j) R = 2 ^ R * (qi c p r L (j - R) - c * r ^ 2 ^ (L + 1))
  | 0, _ => by show qi c p r L j - _ = _; rw [show (2 : Int) ^ 0 = 1 from rfl, Int.one_mul]; rfl
  | R + 1, h => by
    have ih := ys_exact hc hp hr hj R (by omega)
    have hM : 0 < c * r ^ 2 ^ (L + 1) := Int.mul_pos hc (Int.pow_pos hr)
    have hs := qi_sq (c := c) (p := p) (r := r) (L := L) (i := j - (R + 1)) (by omega)
    rw [show j - (R + 1) + 1 = j - R by omega] at hs
    have hq := qi_pos (L := L) (i := j - (R + 1)) hc hp hr
    show dn (c * r ^ 2 ^ (L + 1) * ys _ _ R * 2) (c * r ^ 2 ^ (L + 1) + rt (c * r ^ 2 ^ (L + 1) * (c * r ^ 2 ^ (L + 1) + dn (ys _ _ R) (2 ^ R)))) = _
    rw [ih, dn_mul (two_pos R)]
    generalize c * r ^ 2 ^ (L + 1) = M at *
    rw [show M + (qi c p r L (j - R) - M) = qi c p r L (j - R) by omega, hs, rt_sq hq]
    generalize qi c p r L (j - (R + 1)) = q at *
    generalize qi c p r L (j - R) = q' at *
    have e : M * (2 ^ R * (q' - M)) * 2 = (M + q) * (2 ^ (R + 1) * (q - M)) := by
      rw [Int.pow_succ]
      generalize (2 : Int) ^ R = P at *
      calc M * (P * (q' - M)) * 2 = 2 * P * (M * q') - 2 * P * (M * M) := by grind
        _ = 2 * P * (q * q) - 2 * P * (M * M) := by rw [hs]
        _ = _ := by grind
    rw [e, dn_mul (by omega)]
theorem r_half {r : Int} {L : Nat} (h : r < 2 ^ (L + 1)) : r + 1 ≤ 2 * 2 ^ L := by rw [Int.pow_succ] at h; omega
/-- how far the numbers lie from the scale -/
theorem qi_far {c p r : Int} {L : Nat} (hc : 0 < c) (hr : 1 < r) (hp : p = r + 1 ∨ p = r - 1) (hr2 : r < 2 ^ (L + 1)) : ∀ i : Nat, i < L + 1 →
    c * r ^ 2 ^ (L + 1) ≤ ((qi c p r L (i + 1) - c * r ^ 2 ^ (L + 1)).natAbs : Int) * 2 ^ L ∧ (p = r + 1 → c * r ^ 2 ^ (L + 1) < qi c p r L (i + 1)) ∧ (p = r - 1 → qi c p r L (i + 1) < c * r ^ 2 ^ (L + 1))
  | 0, _ => by
    have hL2 := r_half hr2
    have hX := two_pos L
    have hk : 2 ≤ 2 ^ (L + 1) := by
      have := Nat.pow_le_pow_right (n := 2) (by decide) (show 1 ≤ L + 1 by omega)
      exact this
    have e1 : qi c p r L (0 + 1) = c * r ^ (2 ^ (L + 1) - 2) * (p * p) := by
      unfold qi
      rw [show (2 : Nat) ^ (0 + 1) = 2 from rfl, show p ^ 2 = p * p by rw [Int.pow_succ, Int.pow_succ]; simp]; grind
    have e2 : c * r ^ 2 ^ (L + 1) = c * r ^ (2 ^ (L + 1) - 2) * (r * r) := by
      rw [Int.mul_assoc, ← Int.mul_assoc (r ^ _) r r, ← Int.pow_succ, ← Int.pow_succ]; congr 2; omega
    have hb : 0 < c * r ^ (2 ^ (L + 1) - 2) := Int.mul_pos hc (Int.pow_pos (by omega))
    rw [e1, e2]
    generalize c * r ^ (2 ^ (L + 1) - 2) = b at *
    generalize (2 : Int) ^ L = X at *
    have hr1 : (r + 1) * (r - 1) ≤ 2 * X * (r - 1) := Int.mul_le_mul_of_nonneg_right hL2 (by omega)
    rcases hp with rfl | rfl
    · have e3 : b * ((r + 1) * (r + 1)) - b * (r * r) = b * (2 * r + 1) := by grind
      have hp : 0 < b * (2 * r + 1) := Int.mul_pos hb (by omega)
      rw [e3, show ((b * (2 * r + 1)).natAbs : Int) = b * (2 * r + 1) by omega]
      refine ⟨?_, fun _ => by omega, fun h => by omega⟩
      rw [Int.mul_assoc]
      refine Int.mul_le_mul_of_nonneg_left ?_ (by omega)
      grind
    · have e3 : b * ((r - 1) * (r - 1)) - b * (r * r) = -(b * (2 * r - 1)) := by grind
      have hp : 0 < b * (2 * r - 1) := Int.mul_pos hb (by omega)
      rw [e3, show ((-(b * (2 * r - 1))).natAbs : Int) = b * (2 * r - 1) by omega]
      refine ⟨?_, fun h => by omega, fun _ => by omega⟩
      rw [Int.mul_assoc]
      refine Int.mul_le_mul_of_nonneg_left ?_ (by omega)
      grind
  | i + 1, h => by
    obtain ⟨h1, h2, h3⟩ := qi_far hc hr hp hr2 i (by omega)
    have hs := qi_sq (c := c) (p := p) (r := r) (L := L) (i := i + 1) (by omega)
    have hq := qi_pos (c := c) (p := p) (r := r) (L := L) (i := i + 1) hc (by omega) (by omega)
    have hM : 0 < c * r ^ 2 ^ (L + 1) := Int.mul_pos hc (Int.pow_pos (by omega))
    have hX := two_pos L
    generalize c * r ^ 2 ^ (L + 1) = M at *
    generalize qi c p r L (i + 1) = q at *
    generalize qi c p r L (i + 1 + 1) = q' at *
    rcases hp with rfl | rfl
    · have hq2 := h2 rfl
      have hle : q ≤ q' := by
        apply Int.not_lt.mp
        intro hlt
        have : M * q' < M * q := Int.mul_lt_mul_of_pos_left hlt hM
        have : M * q ≤ q * q := Int.mul_le_mul_of_nonneg_right (by omega) (by omega)
        omega
      refine ⟨?_, fun _ => by omega, fun h => by omega⟩
      have : ((q - M).natAbs : Int) * 2 ^ L ≤ ((q' - M).natAbs : Int) * 2 ^ L := Int.mul_le_mul_of_nonneg_right (by omega) (by omega)
      omega
    · have hq2 := h3 rfl
      have hle : q' ≤ q := by
        apply Int.not_lt.mp
        intro hlt
        have : M * q < M * q' := Int.mul_lt_mul_of_pos_left hlt hM
        have : q * q ≤ M * q := Int.mul_le_mul_of_nonneg_right (by omega) (by omega)
        omega
      refine ⟨?_, fun h => by omega, fun _ => by omega⟩
      have : ((q - M).natAbs : Int) * 2 ^ L ≤ ((q' - M).natAbs : Int) * 2 ^ L := Int.mul_le_mul_of_nonneg_right (by omega) (by omega)
      omega
/-- enough rows -/
theorem rows11 {L r0 T0 : Nat} (hr0 : 2 ^ L ≤ r0) (hb : 60 * 2 ^ (L * T0) ≤ (T0 + 1) * ((r0 - 1) * r0 ^ (T0 - 1))) (hT0 : 0 < T0) : ∀ k : Nat, 60 * 2 ^ (L * (T0 + k)) ≤ (T0 + k + 1) * ((r0 - 1) * r0 ^ (T0 + k - 1))
  | 0 => hb
  | k + 1 => by
    have ih := rows11 hr0 hb hT0 k
    have e1 : 2 ^ (L * (T0 + (k + 1))) = 2 ^ (L * (T0 + k)) * 2 ^ L := by rw [← Nat.pow_add]; congr 1
    have e2 : r0 ^ (T0 + (k + 1) - 1) = r0 ^ (T0 + k - 1) * r0 := by rw [← Nat.pow_succ]; congr 1; omega
    rw [e1, e2]
    have m := Nat.mul_le_mul ih hr0
    have e3 : (T0 + k + 1) * ((r0 - 1) * r0 ^ (T0 + k - 1)) * r0 = (T0 + k + 1) * ((r0 - 1) * (r0 ^ (T0 + k - 1) * r0)) := by
      rw [Nat.mul_assoc, Nat.mul_assoc]
    rw [e3, Nat.mul_assoc] at m
    have m2 := Nat.mul_le_mul_right ((r0 - 1) * (r0 ^ (T0 + k - 1) * r0)) (show T0 + k + 1 ≤ T0 + (k + 1) + 1 by omega)
    exact Nat.le_trans m m2
set_option linter.unusedVariables false
theorem dg_len {M : Int} {f : Nat} (hf : 0 < f) (h1 : (10 : Int) ^ (f - 1) ≤ M) (h2 : M < 10 ^ f) : (Str.ofString (toString M)).length = f := by
  have h0 : 0 ≤ M := Int.le_trans (Int.le_of_lt (Int.pow_pos (by decide))) h1
  have hu := toString_length_le h0 hf h2
  apply Nat.le_antisymm hu
  rw [PyProof.Rows.ofString_len] at hu ⊢
  obtain ⟨n, rfl⟩ : ∃ n : Nat, M = (n : Int) := ⟨M.toNat, by omega⟩
  have e : (toString (n : Int)).length = (Nat.toDigits 10 n).length := by
    show (Nat.repr n).length = _
    simp [Nat.repr]
  rw [e] at hu ⊢
  apply Nat.le_of_not_lt
  intro hlt
  have hle : (Nat.toDigits 10 n).length ≤ f - 1 := by omega
  by_cases hf1 : f - 1 = 0
  · rw [hf1] at hle
    have := PySem.toDigits_len_ge 10 n
    omega
  · have := (Nat.length_toDigits_le_iff (b := 10) (n := n) (k := f - 1) (by decide) (by omega)).mp hle
    have e1 : (10 : Int) ^ (f - 1) = ((10 ^ (f - 1) : Nat) : Int) := by simp
    omega
set_option linter.unusedVariables false
-- the plain law of 07
theorem rest_step {M y s off left : Int} (hD : 0 < M + s) (h : y * (s - M) = (M + s) * off + left) (h0 : 0 ≤ left) (h1 : left < M + s) :
    dn (M * y * 2) (M + s) = if 0 < 2 * left - 2 * M - (s - M) ∨ (2 * left - 2 * M - (s - M) = 0 ∧ (y - off) % 2 = 1) then y - (off + 1) else y - off := by
  have e : M * y * 2 = (M + s) * (y - off) - left := by
    have : M * y * 2 = (M + s) * y - y * (s - M) := by grind
    rw [this, h]; grind
  split
  · rename_i hc
    have e2 : M * y * 2 - (M + s) * (y - (off + 1)) = M + s - left := by rw [e]; grind
    refine dn_uniq hD ?_ ?_ ?_ ?_ <;> rw [e2] <;> omega
  · rename_i hc
    have e2 : M * y * 2 - (M + s) * (y - off) = -left := by rw [e]; grind
    refine dn_uniq hD ?_ ?_ ?_ ?_ <;> rw [e2] <;> omega

theorem near_min {a b : Int} (hb : 0 < b) : (if lt3 (((a - b * (a / b + 1)).natAbs : Int), (a / b + 1) % 2, a / b + 1) (((a - b * (a / b)).natAbs : Int), (a / b) % 2, a / b) then a / b + 1 else a / b) = dn a b := by
  have h1 := Int.mul_ediv_add_emod a b
  have h2 := Int.emod_nonneg a (show b ≠ 0 by omega)
  have h3 := Int.emod_lt_of_pos a hb
  unfold dn lt3
  rw [Int.mul_add, Int.mul_one]
  generalize a / b = q at *
  generalize a % b = r at *
  generalize b * q = m at *
  simp only
  split <;> split <;> (try split) <;> simp_all <;> (try omega) <;> (try (split <;> omega))

/-- y stays above - M 2^R -/
theorem ys_low {M x : Int} (hM : 0 < M) (hx : 0 < x) : ∀ R : Nat, (2 : Int) ^ R * (1 - 2 * M) < 2 * ys M x R
  | 0 => by show (1 : Int) * (1 - 2 * M) < 2 * (x - M); omega
  | R + 1 => by
    have ih := ys_low hM hx R
    have hP := two_pos R
    have hd := (dn_spec (a := ys M x R) hP).2.1
    have hz : 0 < M + dn (ys M x R) (2 ^ R) := by
      apply Int.not_le.mp; intro h
      have : (2 : Int) ^ R * dn (ys M x R) (2 ^ R) ≤ 2 ^ R * (-M) := Int.mul_le_mul_of_nonneg_left (by omega) (by omega)
      have e : (2 : Int) ^ R * (1 - 2 * M) = 2 ^ R + 2 * (2 ^ R * (-M)) := by grind
      rw [e] at ih
      generalize (2 : Int) ^ R * (-M) = u at *
      generalize (2 : Int) ^ R * dn (ys M x R) (2 ^ R) = v at *
      omega
    have hs := (rt_spec (Int.mul_pos hM hz)).pos
    show (2 : Int) ^ (R + 1) * (1 - 2 * M) < 2 * dn (M * ys M x R * 2) (M + rt (M * (M + dn (ys M x R) (2 ^ R))))
    generalize rt (M * (M + dn (ys M x R) (2 ^ R))) = s at *
    generalize ys M x R = y at *
    have hsp := (dn_spec (a := M * y * 2) (b := M + s) (by omega)).2.1
    generalize dn (M * y * 2) (M + s) = d at *
    rw [Int.pow_succ]
    generalize (2 : Int) ^ R = P at *
    apply Int.not_le.mp; intro hc
    -- d <= P (1 - 2M)
    have hc' : d ≤ P * (1 - 2 * M) := by
      have : P * 2 * (1 - 2 * M) = 2 * (P * (1 - 2 * M)) := by grind
      omega
    have k1 : (M + s) * d ≤ (M + s) * (P * (1 - 2 * M)) := Int.mul_le_mul_of_nonneg_left hc' (by omega)
    have k2 : M * (P * (1 - 2 * M) + 1) ≤ M * (2 * y) := Int.mul_le_mul_of_nonneg_left (by omega) (by omega)
    have k3 : s * (P * (1 - 2 * M)) ≤ s * (-1) := Int.mul_le_mul_of_nonneg_left (by
      have : P * (1 - 2 * M) ≤ P * (-1) := Int.mul_le_mul_of_nonneg_left (by omega) (by omega)
      omega) (by omega)
    have e1 : (M + s) * (P * (1 - 2 * M)) = M * (P * (1 - 2 * M)) + s * (P * (1 - 2 * M)) := by grind
    have e2 : M * (P * (1 - 2 * M) + 1) = M * (P * (1 - 2 * M)) + M := by grind
    have e3 : M * (2 * y) = M * y * 2 := by grind
    rw [e1] at k1
    rw [e2, e3] at k2
    generalize M * y * 2 = v at *
    generalize M * (P * (1 - 2 * M)) = u at *
    generalize s * (P * (1 - 2 * M)) = t at *
    generalize (M + s) * d = q at *
    omega
theorem ys_pos {M x : Int} (hM : 0 < M) (hx : 0 < x) (R : Nat) : 0 < M + dn (ys M x R) (2 ^ R) := by
  have ih := ys_low hM hx R
  have hP := two_pos R
  have hd := (dn_spec (a := ys M x R) hP).2.1
  apply Int.not_le.mp; intro h
  have : (2 : Int) ^ R * dn (ys M x R) (2 ^ R) ≤ 2 ^ R * (-M) := Int.mul_le_mul_of_nonneg_left (by omega) (by omega)
  have e : (2 : Int) ^ R * (1 - 2 * M) = 2 ^ R + 2 * (2 ^ R * (-M)) := by grind
  rw [e] at ih
  generalize (2 : Int) ^ R * (-M) = u at *
  generalize (2 : Int) ^ R * dn (ys M x R) (2 ^ R) = v at *
  omega

/-- once small, it stays -/
theorem ys_still {M x : Int} (hM : 0 < M) {N : Nat} (h : 2 * ((ys M x N).natAbs : Int) ≤ 2 ^ N) : ∀ k, ys M x (N + k) = ys M x N
  | 0 => rfl
  | k + 1 => by
    have ih := ys_still hM h k
    have hP := two_pos (N + k)
    have hle : (2 : Int) ^ N ≤ 2 ^ (N + k) := by
      have := Nat.pow_le_pow_right (n := 2) (by decide) (show N ≤ N + k by omega)
      have e1 : (2 : Int) ^ N = ((2 ^ N : Nat) : Int) := by simp
      have e2 : (2 : Int) ^ (N + k) = ((2 ^ (N + k) : Nat) : Int) := by simp
      omega
    show dn (M * ys M x (N + k) * 2) (M + rt (M * (M + dn (ys M x (N + k)) (2 ^ (N + k))))) = _
    rw [ih]
    have hz : dn (ys M x N) (2 ^ (N + k)) = 0 := dn_uniq hP (by omega) (by omega) (by omega) (by omega)
    rw [hz, Int.add_zero, rt_sq hM]
    have e : M * ys M x N * 2 = (M + M) * ys M x N := by grind
    rw [e]
    exact dn_mul (by omega)
set_option maxHeartbeats 4000000
set_option linter.unusedVariables false
set_option exponentiation.threshold 3000
/-- _ilog with its halvings counted -/
theorem c_ilogN {g : GX} (hg : GOk g) {x M : Int} {L N f T : Nat} (hM : 0 < M) (hMb : intBits M ≤ 1500) (hL : 0 < L) (hL2 : L ≤ 1000) (hN : N ≤ 1000000)
    (hgo : ∀ R, R < N → M * 2 ^ R ≤ ((ys M x R).natAbs : Int) * 2 ^ L) (hstop : ((ys M x N).natAbs : Int) * 2 ^ L < M * 2 ^ N) (hz : ∀ R, R < N → 0 < M + dn (ys M x R) (2 ^ R)) (hb : ∀ R, R ≤ N → intBits (ys M x R) ≤ 60000)
    (hf : 0 < f) (hf1 : (10 : Int) ^ (f - 1) ≤ M) (hf2 : M < 10 ^ f) (hT0 : 0 < T) (hT : (T : Int) = -((-10 * (f : Int)) / (3 * L))) :
    Calls g 2 "_ilog" [.int x, .int M, .int (L : Int)] fun v => v = .int (dn (hw M (dn (ys M x N) (2 ^ N)) T (T - 1) * ys M x N) M) := by
  have hlog : M.natAbs.log2 < 1920 := (Nat.log2_lt (by omega)).mpr (Nat.lt_of_lt_of_le (bits_lt hMb) (Nat.pow_le_pow_right (by decide) (by decide)))
  refine c_ilog hg (x := x) (N := N) (T := T) hM hlog hL (by omega) (by omega) hgo hstop hz (fun R h => Nat.le_trans (hb R h) (by decide)) hT0 (by rw [dg_len hf hf1 hf2]; exact hT) (fun j hj => ?_)
  exact Nat.le_trans (hw_bits hM (dn_half hM hL hstop) hMb hj) (by decide)
theorem c_near {g : GX} (hg : GOk g) {a b : Int} (hb : 0 < b) (ha1 : intBits a ≤ 60000000) (hb1 : intBits b ≤ 60000000) : Calls g 1 "_law_nearest" [.int a, .int b] fun v => v = .int (dn a b) := by
  refine Calls_of (n := 0) (ns := [Str.ofString "a", Str.ofString "b"]) (hd := by rw [hg.p]; exact List.Mem.tail _ (List.Mem.tail _ (List.Mem.tail _ (List.Mem.tail _ (List.Mem.tail _ (List.Mem.head _)))))) ?_ rfl rfl (by decide) rfl rfl rfl ?_
  · intro vs pm cd doc hv
    match vs, hv with
    | [x, y], _ => rfl
  · intro A L ad qual code
    have hb' : b ≠ 0 := by omega
    have hlb : intBits (a / b) ≤ 60000000 := by
      refine lt_bits (Nat.lt_of_le_of_lt ?_ (bits_lt ha1))
      have h1 := Int.mul_ediv_add_emod a b
      have h2 := Int.emod_nonneg a hb'
      have h3 := Int.emod_lt_of_pos a hb
      apply Nat.le_of_not_lt
      intro h
      rcases Int.le_total 0 (a / b) with hd | hd
      · have : 1 * (a / b) ≤ b * (a / b) := Int.mul_le_mul_of_nonneg_right (by omega) hd
        generalize b * (a / b) = u at *
        omega
      · have : b * (a / b) ≤ b * (-(a.natAbs + 1 : Int)) := Int.mul_le_mul_of_nonneg_left (by omega) (by omega)
        have h4 : (1 : Int) * a.natAbs ≤ b * a.natAbs := Int.mul_le_mul_of_nonneg_right (by omega) (by omega)
        rw [Int.mul_neg, Int.mul_add, Int.mul_one] at this
        generalize b * (a / b) = u at *
        generalize b * (a.natAbs : Int) = w at *
        omega
    repeat walk_at "mw"
    rw [Int.fdiv_eq_ediv_of_nonneg _ (by omega)]
    have hnm := near_min (a := a) hb
    generalize a / b = q at *
    refine Ev_item (Ev_min rfl (Evs_cons ?_))
    refine Ev_compT [("a", .int a), ("b", .int b)] [.tup (IL [((a - b * q).natAbs : Int), q % 2, q]), .tup (IL [((a - b * (q + 1)).natAbs : Int), (q + 1) % 2, q + 1])] rfl ?_
    repeat walk_at "mw"
    refine ⟨_, .tup _, by simp, rfl, by walk_at "cap", ?_, ?_⟩
    · intro i aw hi a'
      match i, hi with
      | 0, hi =>
        cases hi
        repeat walk_at "mw"
        refine Bin_mul (IntMulOk.of_le hb1 hlb (by decide)) ?_
        repeat walk_at "mw"
        rw [abs_if, Int.fmod_eq_emod_of_nonneg _ (by decide)]
        rfl
      | 1, hi =>
        cases hi
        repeat walk_at "mw"
        refine Bin_mul (IntMulOk.of_le hb1 (intBits_add_le hlb (show intBits 1 ≤ 1 by decide)) (by decide)) ?_
        repeat walk_at "mw"
        rw [abs_if, Int.fmod_eq_emod_of_nonneg _ (by decide)]
        rfl
      | n + 2, hi => cases hi
    · repeat walk_at "mw"
      refine CallB_minT (x := (((a - b * q).natAbs : Int), q % 2, q)) (y := (((a - b * (q + 1)).natAbs : Int), (q + 1) % 2, q + 1)) ?_
      repeat walk_at "mw"
      refine Itm_tup (by decide) (j := 2) (by split <;> rfl) (av := .int (dn a b)) ?_ ?_
      · rw [← hnm]; split <;> rfl
      · rfl
theorem f_near {g : GX} (hg : GOk g) : ∃ a, FnIs g "_law_nearest" a := FnIs_of (by rw [hg.p]; exact List.Mem.tail _ (List.Mem.tail _ (List.Mem.tail _ (List.Mem.tail _ (List.Mem.tail _ (List.Mem.head _))))))
set_option maxHeartbeats 4000000
set_option linter.unusedVariables false
set_option linter.unusedSimpArgs false
theorem rows11' {L T len : Nat} {c r : Int} (hL1 : 1 ≤ L) (hL4 : L ≤ 4) (hc : 0 < c) (hr1 : 2 ^ L < r) (hlen : c * r ^ 2 ^ (L + 1) < 10 ^ len) (hT : 10 * len ≤ 3 * (L * T)) :
    0 < T ∧ 60 * (c * r ^ 2 ^ (L + 1)) ≤ ((T : Int) + 1) * ((r - 1) * r ^ (T - 1)) := by
  have h10 := pow10_2 len (L * T) hT
  have key : ∀ (r0 T0 l0 : Nat), r0 = 2 ^ L + 1 → (10 : Int) ^ (l0 - 1) ≤ (r0 : Int) ^ 2 ^ (L + 1) → 0 < l0 → 3 * (L * (T0 - 1)) < 10 * l0 → 0 < T0 → 60 * 2 ^ (L * T0) ≤ (T0 + 1) * ((r0 - 1) * r0 ^ (T0 - 1)) → 0 < T ∧ 60 * (c * r ^ 2 ^ (L + 1)) ≤ ((T : Int) + 1) * ((r - 1) * r ^ (T - 1)) := by
    intro r0 T0 l0 hr0 hl hl0 hT1 hT0 hb
    have hXp := two_pos L
    have hrp : 0 < r := by omega
    have hr0p : 0 < r0 := by rw [hr0]; exact Nat.succ_pos _
    have hrr : (r0 : Int) ≤ r := by
      have e : (2 : Int) ^ L = ((2 ^ L : Nat) : Int) := by simp
      rw [e] at hr1; omega
    have hpw : ∀ n : Nat, (r0 : Int) ^ n ≤ r ^ n := by
      intro n
      induction n with
      | zero => rw [Int.pow_zero, Int.pow_zero]; exact Int.le_refl _
      | succ n ih =>
        rw [Int.pow_succ, Int.pow_succ]
        exact Int.mul_le_mul ih hrr (by omega) (Int.le_of_lt (Int.pow_pos (by omega)))
    have hlen0 : l0 ≤ len := by
      apply Nat.le_of_not_lt
      intro hlt
      have h1 : (10 : Int) ^ len ≤ 10 ^ (l0 - 1) := by
        have e : ∀ n : Nat, (10 : Int) ^ n = ((10 ^ n : Nat) : Int) := fun n => by simp
        rw [e, e]; exact Int.ofNat_le.mpr (Nat.pow_le_pow_right (by decide) (by omega))
      have h2 := hpw (2 ^ (L + 1))
      have h3 : 1 * r ^ 2 ^ (L + 1) ≤ c * r ^ 2 ^ (L + 1) := Int.mul_le_mul_of_nonneg_right (by omega) (Int.le_of_lt (Int.pow_pos (by omega)))
      omega
    have hTT : T0 ≤ T := by
      apply Nat.le_of_not_lt
      intro hlt
      have h4 : L * T ≤ L * (T0 - 1) := Nat.mul_le_mul_left L (by omega)
      omega
    have h5 := rows11 (L := L) (r0 := r0) (by omega) hb hT0 (T - T0)
    rw [show T0 + (T - T0) = T by omega] at h5
    refine ⟨by omega, ?_⟩
    have h6 : (60 : Int) * 2 ^ (L * T) ≤ ((T : Int) + 1) * (((r0 : Int) - 1) * (r0 : Int) ^ (T - 1)) := by
      have e : ((60 * 2 ^ (L * T) : Nat) : Int) = 60 * (2 : Int) ^ (L * T) := by simp
      have e2 : (((T + 1) * ((r0 - 1) * r0 ^ (T - 1)) : Nat) : Int) = ((T : Int) + 1) * (((r0 : Int) - 1) * (r0 : Int) ^ (T - 1)) := by
        rw [Int.natCast_mul, Int.natCast_mul, Int.natCast_sub (by omega)]
        simp
      rw [← e, ← e2]; exact Int.ofNat_le.mpr h5
    have h7 : ((r0 : Int) - 1) * (r0 : Int) ^ (T - 1) ≤ (r - 1) * r ^ (T - 1) := Int.mul_le_mul (by omega) (hpw _) (Int.le_of_lt (Int.pow_pos (by omega))) (by omega)
    have h8 : ((T : Int) + 1) * (((r0 : Int) - 1) * (r0 : Int) ^ (T - 1)) ≤ ((T : Int) + 1) * ((r - 1) * r ^ (T - 1)) := Int.mul_le_mul_of_nonneg_left h7 (by omega)
    omega
  rcases (show L = 1 ∨ L = 2 ∨ L = 3 ∨ L = 4 by omega) with rfl | rfl | rfl | rfl
  · exact key 3 7 2 rfl (by decide) (by decide) (by decide) (by decide) (by decide)
  · exact key 5 10 6 rfl (by decide) (by decide) (by decide) (by decide) (by decide)
  · exact key 9 18 16 rfl (by decide) (by decide) (by decide) (by decide) (by decide)
  · exact key 17 34 40 rfl (by decide) (by decide) (by decide) (by decide) (by decide)
theorem tl_id {r M c u P : Rat} (hr : 0 < r) (hr1 : 0 < r - 1) (hP : 0 < P) (hc : 0 < c) (e1 : u * (P * r * r) = 1) : r * M * (u / (c * (1 - 1 / r))) = M / (c * ((r - 1) * P)) := by
  have h1 : c * (1 - 1 / r) = c * (r - 1) / r := by grind
  have h2 : c * (r - 1) / r ≠ 0 := by
    have := q_div_pos (Rat.mul_pos hc hr1) hr
    grind
  have h3 : c * ((r - 1) * P) ≠ 0 := by
    have := Rat.mul_pos hc (Rat.mul_pos hr1 hP)
    grind
  have h4 : u = 1 / (P * r * r) := by
    have : P * r * r ≠ 0 := by
      have := Rat.mul_pos (Rat.mul_pos hP hr) hr
      grind
    grind
  rw [h1, h4]
  have h5 : P ≠ 0 := by grind
  have h6 : r ≠ 0 := by grind
  have h7 : c ≠ 0 := by grind
  have h8 : r - 1 ≠ 0 := by grind
  clear hr hr1 hP hc e1 h1 h4
  grind
theorem p11 {T K : Nat} {M m0 r σ : Int} (hσ : σ = 1 ∨ σ = -1) (hr : 2 < r) (hm0 : 0 < m0) (hMm : M = m0 * r) (hT0 : 0 < T) (hrow : 60 * M ≤ ((T : Int) + 1) * ((r - 1) * r ^ (T - 1))) (hK : K ≤ 1000)
    (hKe : lp (max (r + σ) r - min (r + σ) r) (max (r + σ) r + min (r + σ) r) (r * M * 1048576) K ≤ 0) :
    100 * (r - 1) * (hw M (σ * m0) T (T - 1) * 1048576 - ls (max (r + σ) r - min (r + σ) r) (max (r + σ) r + min (r + σ) r) (r * M * 1048576) K) < 1048576 * (50 * (r - 1) + 100 + 2 * (r - 1)) ∧
    100 * (r - 1) * (ls (max (r + σ) r - min (r + σ) r) (max (r + σ) r + min (r + σ) r) (r * M * 1048576) K + 3 * (K + 1) - hw M (σ * m0) T (T - 1) * 1048576) < 1048576 * (50 * (r - 1) + 100 + 2 * (r - 1)) := by
  have hM : 0 < M := by rw [hMm]; exact Int.mul_pos hm0 (by omega)
  have hm2 : 2 * m0 ≤ M := by
    rw [hMm]
    have : m0 * 2 ≤ m0 * r := Int.mul_le_mul_of_nonneg_left (by omega) (by omega)
    omega
  have hyn : ((σ * m0).natAbs : Int) = m0 := by rcases hσ with rfl | rfl <;> omega
  have hMr := int_pos hM
  have hrr := int_pos (show 0 < r by omega)
  have hr1 := int_pos (show 0 < r - 1 by omega)
  have hm0r := int_pos hm0
  have cM : (M : Rat) = (m0 : Rat) * r := by rw [hMm]; exact_mod_cast rfl
  have cr1 : ((r - 1 : Int) : Rat) = (r : Rat) - 1 := by exact_mod_cast rfl
  rw [cr1] at hr1
  have eτ : ((σ * m0).natAbs : Rat) / M = 1 / r := by
    have h : (((σ * m0).natAbs : Nat) : Rat) = (m0 : Rat) := by
      have h2 : ((((σ * m0).natAbs : Nat) : Int) : Rat) = ((m0 : Int) : Rat) := by rw [hyn]
      exact h2
    rw [h, cM]; grind
  have ct : ((σ * m0 : Int) : Rat) / M = (σ : Rat) / r := by
    have h : ((σ * m0 : Int) : Rat) = (σ : Rat) * m0 := by exact_mod_cast rfl
    rw [h, cM]; grind
  have cσ : (σ : Rat) = 1 ∨ (σ : Rat) = -1 := by
    rcases hσ with rfl | rfl
    · exact .inl (by exact_mod_cast rfl)
    · exact .inr (by exact_mod_cast rfl)
  have tb1 : (1 : Rat) / r < 1 := by
    have := q_div_pos hr1 hrr
    have e : ((r : Rat) - 1) / r = 1 - 1 / r := by grind
    rw [e] at this; grind
  have tb0 : (0 : Rat) ≤ 1 / r := q_div_nn (by grind) hrr
  have k1 : ((σ * m0 : Int) : Rat) / M ≤ 1 / r := by
    rw [ct]
    refine q_div_le hrr ?_
    have : (1 : Rat) / r * r = 1 := by grind
    rcases cσ with h | h <;> grind
  have k2 : -(1 / (r : Rat)) ≤ ((σ * m0 : Int) : Rat) / M := by
    rw [ct]
    refine q_le_div hrr ?_
    have : -((1 : Rat) / r) * r = -1 := by grind
    rcases cσ with h | h <;> grind
  obtain ⟨w1, w2⟩ := hw_last (u := σ * m0) (T := T) (τ := 1 / r) hM hT0 tb0 tb1 k1 k2
  have ev : (1 : Rat) / r / (1 - 1 / r) = 1 / (r - 1) := by grind
  rw [ev] at w1 w2
  -- what the series leaves out
  have tbt : (r : Rat) * M * tl T (1 / r) ≤ 1 / 60 := by
    have h := int_le hrow
    have c1 : ((60 * M : Int) : Rat) = 60 * (M : Rat) := by exact_mod_cast rfl
    have c2 : ((((T : Int) + 1) * ((r - 1) * r ^ (T - 1)) : Int) : Rat) = ((T : Rat) + 1) * (((r : Rat) - 1) * (r : Rat) ^ (T - 1)) := by
      rw [← ipow_cast]; exact_mod_cast rfl
    rw [c1, c2] at h
    have hTr : (0 : Rat) ≤ (T : Rat) := by grind
    have hP := q_pow_pos hrr (T - 1)
    have inv : ∀ n : Nat, ((1 : Rat) / r) ^ n * (r : Rat) ^ n = 1 := by
      intro n
      induction n with
      | zero => grind
      | succ n ih =>
        rw [Rat.pow_succ, Rat.pow_succ]
        have : (1 : Rat) / r * r = 1 := by grind
        calc ((1 : Rat) / r) ^ n * (1 / r) * ((r : Rat) ^ n * r) = (((1 : Rat) / r) ^ n * (r : Rat) ^ n) * (1 / r * r) := by grind
          _ = 1 := by rw [ih, this]; grind
    have e1 : ((1 : Rat) / r) ^ (T + 1) * ((r : Rat) ^ (T - 1) * r * r) = 1 := by
      have := inv (T + 1)
      have e : (r : Rat) ^ (T + 1) = (r : Rat) ^ (T - 1) * r * r := by
        rw [← Rat.pow_succ, ← Rat.pow_succ]; congr 1; omega
      rw [e] at this; exact this
    have hD : 0 < ((T : Rat) + 1) * (1 - 1 / r) := Rat.mul_pos (by grind) (by grind)
    have e2 : (r : Rat) * M * tl T (1 / r) = M / (((T : Rat) + 1) * (((r : Rat) - 1) * (r : Rat) ^ (T - 1))) := by
      unfold tl
      exact tl_id hrr hr1 hP (by grind) e1
    rw [e2]
    have hDD : 0 < ((T : Rat) + 1) * (((r : Rat) - 1) * (r : Rat) ^ (T - 1)) := Rat.mul_pos (by grind) (Rat.mul_pos hr1 hP)
    exact q_div_le hDD (by grind)
  have hq := Qs_one ((σ : Rat) / r) T
  rw [ct] at w1 w2
  have hBp : 0 < min (r + σ) r := by omega
  have hBA : min (r + σ) r ≤ max (r + σ) r := by omega
  have hA2 : max (r + σ) r ≤ 2 * min (r + σ) r := by omega
  have hsc : (0 : Int) ≤ r * M * 1048576 := Int.mul_nonneg (Int.mul_nonneg (by omega) (by omega)) (by decide)
  have main : ∀ N : Nat, 0 < N →
      (((hw M (σ * m0) T (T - 1) : Int) : Rat) * 1048576 - ((ls (max (r + σ) r - min (r + σ) r) (max (r + σ) r + min (r + σ) r) (r * M * 1048576) K : Int) : Rat) ≤ 1048576 * (1 / 2 + 1 / ((r : Rat) - 1) + 1 / 60) + 3 * ((K : Rat) + 1) + ((17 * (r * M * 1048576) : Int) : Rat) / (N : Rat)) ∧
      (((ls (max (r + σ) r - min (r + σ) r) (max (r + σ) r + min (r + σ) r) (r * M * 1048576) K : Int) : Rat) - ((hw M (σ * m0) T (T - 1) : Int) : Rat) * 1048576 ≤ 1048576 * (1 / 2 + 1 / ((r : Rat) - 1) + 1 / 60) + ((17 * (r * M * 1048576) : Int) : Rat) / (N : Rat)) := by
    intro N hN
    have hNr := nat_pos hN
    obtain ⟨t1, t2⟩ := taylor (N := N) (y := σ * m0) hN hM (by omega) T
    rw [eτ, ct] at t1 t2
    obtain ⟨l1, l2⟩ := ls_log (N := N) hN hBp hBA hA2 hsc hKe
    have csc : ((r * M * 1048576 : Int) : Rat) = (r : Rat) * M * 1048576 := by simp only [Rat.intCast_mul, Rat.intCast_ofNat]
    have c17 : ((17 * (r * M * 1048576) : Int) : Rat) = 17 * ((r : Rat) * M * 1048576) := by simp only [Rat.intCast_mul, Rat.intCast_ofNat]
    rw [csc] at l1 l2
    rw [c17]
    -- a common factor
    have hsl : lgI N (max (r + σ) r) (min (r + σ) r) ≤ (σ : Rat) * lgI N (M + σ * m0) M ∧ (σ : Rat) * lgI N (M + σ * m0) M ≤ lgI N (max (r + σ) r) (min (r + σ) r) + 1 / (N : Rat) := by
      have s := lg_scale (N := N) (a := (max (r + σ) r).toNat) (b := (min (r + σ) r).toNat) (c := m0.toNat) hN (by omega) (by omega) (by omega)
      rw [← Int.toNat_mul (by omega) (by omega), ← Int.toNat_mul (by omega) (by omega)] at s
      rcases hσ with rfl | rfl
      · rw [Int.max_eq_left (by omega), Int.min_eq_right (by omega)] at s ⊢
        rw [show M + 1 * m0 = m0 * (r + 1) by rw [hMm]; grind, show ((1 : Int) : Rat) = 1 by exact_mod_cast rfl, show lgI N (m0 * (r + 1)) M = lgI N (m0 * (r + 1)) (m0 * r) by rw [hMm]]
        unfold lgI
        constructor <;> grind
      · rw [Int.max_eq_right (by omega), Int.min_eq_left (by omega)] at s ⊢
        rw [show M + -1 * m0 = m0 * (r + -1) by rw [hMm]; grind, show ((-1 : Int) : Rat) = -1 by exact_mod_cast rfl, show lgI N (m0 * (r + -1)) M = lgI N (m0 * (r + -1)) (m0 * r) by rw [hMm]]
        have en : lgI N (m0 * (r + -1)) (m0 * r) = -lg N (m0 * r).toNat (m0 * (r + -1)).toNat := by unfold lgI lg; grind
        rw [en]
        unfold lgI
        constructor <;> grind
    obtain ⟨sl1, sl2⟩ := hsl
    have e4 : (4 : Rat) / N = 4 * (1 / N) := by grind
    have e12 : (12 : Rat) / N = 12 * (1 / N) := by grind
    have e17 : 17 * ((r : Rat) * M * 1048576) / (N : Rat) = 17 * ((r : Rat) * M * 1048576 * (1 / N)) := by grind
    rw [e4] at t1 t2
    rw [e12] at l1 l2
    rw [e17]
    have hn0 : (0 : Rat) < 1 / N := q_div_pos (by grind) hNr
    -- M Qs = sigma r M (-Pw)
    have eQ : (M : Rat) * Qs ((σ : Rat) / r) 1 T = (r : Rat) * M * ((σ : Rat) * -Pw T (-((σ : Rat) / r))) := by
      rw [← hq]
      have : (σ : Rat) * σ = 1 := by rcases cσ with h | h <;> rw [h] <;> grind
      calc (M : Rat) * Qs ((σ : Rat) / r) 1 T = M * Qs ((σ : Rat) / r) 1 T * ((σ : Rat) * σ) := by rw [this]; grind
        _ = _ := by grind
    rw [eQ] at w1 w2
    have hrM := Rat.mul_pos hrr hMr
    have h1r : (0 : Rat) ≤ 1 / ((r : Rat) - 1) := q_div_nn (by grind) hr1
    generalize ((hw M (σ * m0) T (T - 1) : Int) : Rat) = W at *
    generalize Pw T (-((σ : Rat) / r)) = PP at *
    generalize lgI N (M + σ * m0) M = lam at *
    generalize lgI N (max (r + σ) r) (min (r + σ) r) = lam' at *
    generalize ((ls (max (r + σ) r - min (r + σ) r) (max (r + σ) r + min (r + σ) r) (r * M * 1048576) K : Int) : Rat) = SS at *
    generalize (1 : Rat) / N = e at *
    generalize (1 : Rat) / ((r : Rat) - 1) = v at *
    generalize tl T (1 / (r : Rat)) = tt at *
    generalize (r : Rat) * M = rM at *
    -- r M sigma lam against W
    have k1 : W - rM * ((σ : Rat) * lam) ≤ 1 / 2 + v + 1 / 60 + 4 * (rM * e) := by
      have m1 := q_mul_le' t2 (show 0 ≤ rM by grind)
      have m2 := q_mul_le' t1 (show 0 ≤ rM by grind)
      rcases cσ with h | h <;> rw [h] at w1 w2 ⊢ <;> grind
    have k2 : -(1 / 2 + v + 1 / 60 + 4 * (rM * e)) ≤ W - rM * ((σ : Rat) * lam) := by
      have m1 := q_mul_le' t2 (show 0 ≤ rM by grind)
      have m2 := q_mul_le' t1 (show 0 ≤ rM by grind)
      rcases cσ with h | h <;> rw [h] at w1 w2 ⊢ <;> grind
    generalize (σ : Rat) * lam = sl at *
    have m3 := q_mul_le' sl1 (show 0 ≤ rM by grind)
    have m4 := q_mul_le' sl2 (show 0 ≤ rM by grind)
    have y1 : rM * 1048576 * (lam' + 12 * e) = 1048576 * (rM * lam') + 12 * (rM * 1048576 * e) := by grind
    have y2 : rM * 1048576 * (lam' - 12 * e) = 1048576 * (rM * lam') - 12 * (rM * 1048576 * e) := by grind
    have y3 : rM * (lam' + e) = rM * lam' + rM * e := by grind
    rw [y1] at l1
    rw [y2] at l2
    rw [y3] at m4
    have y4 : 17 * (rM * 1048576 * e) = 1048576 * (17 * (rM * e)) := by grind
    have y5 : 12 * (rM * 1048576 * e) = 1048576 * (12 * (rM * e)) := by grind
    rw [y4]
    rw [y5] at l1 l2
    generalize rM * lam' = Z at *
    generalize rM * sl = Z' at *
    have he : 0 < rM * e := Rat.mul_pos hrM hn0
    generalize rM * e = E at *
    constructor <;> grind
  have A1 := q_arch (fun N hN => (main N hN).1)
  have A2 := q_arch (fun N hN => (main N hN).2)
  clear main
  have hKr : (K : Rat) ≤ 1000 := by
    have := nat_le hK
    have e : ((1000 : Nat) : Rat) = 1000 := by exact_mod_cast rfl
    rw [e] at this; exact this
  generalize ls (max (r + σ) r - min (r + σ) r) (max (r + σ) r + min (r + σ) r) (r * M * 1048576) K = low at *
  generalize hw M (σ * m0) T (T - 1) = W at *
  have hv : ((r : Rat) - 1) * (1 / ((r : Rat) - 1)) = 1 := by grind
  generalize (1 : Rat) / ((r : Rat) - 1) = v at *
  have cast1 : ((100 * (r - 1) * (W * 1048576 - low) : Int) : Rat) = 100 * ((r : Rat) - 1) * ((W : Rat) * 1048576 - low) := by
    simp only [Rat.intCast_mul, Rat.intCast_sub, Rat.intCast_ofNat]
  have cast2 : ((100 * (r - 1) * (low + 3 * (K + 1) - W * 1048576) : Int) : Rat) = 100 * ((r : Rat) - 1) * ((low : Rat) + 3 * ((K : Rat) + 1) - (W : Rat) * 1048576) := by
    simp only [Rat.intCast_mul, Rat.intCast_sub, Rat.intCast_add, Rat.intCast_ofNat, Rat.intCast_natCast]
  have cast3 : ((1048576 * (50 * (r - 1) + 100 + 2 * (r - 1)) : Int) : Rat) = 1048576 * (50 * ((r : Rat) - 1) + 100 + 2 * ((r : Rat) - 1)) := by
    simp only [Rat.intCast_mul, Rat.intCast_sub, Rat.intCast_add, Rat.intCast_ofNat]
  have r2 : (2 : Rat) ≤ (r : Rat) - 1 := by
    have := int_le (show 3 ≤ r by omega)
    have e : ((3 : Int) : Rat) = 3 := by exact_mod_cast rfl
    grind
  have g1 := q_mul_le' A1 (show (0 : Rat) ≤ 100 * ((r : Rat) - 1) by grind)
  have g2 := q_mul_le' A2 (show (0 : Rat) ≤ 100 * ((r : Rat) - 1) by grind)
  have gk := q_mul_le' (show 3 * ((K : Rat) + 1) ≤ 3003 by grind) (show (0 : Rat) ≤ 100 * ((r : Rat) - 1) by grind)
  have ex : 100 * ((r : Rat) - 1) * (1048576 * (1 / 2 + v + 1 / 60)) = 1048576 * (50 * ((r : Rat) - 1) + 100 * (((r : Rat) - 1) * v) + 100 / 60 * ((r : Rat) - 1)) := by grind
  constructor
  · apply Rat.intCast_lt_intCast.mp
    rw [cast1, cast3]
    have ea : 100 * ((r : Rat) - 1) * (1048576 * (1 / 2 + v + 1 / 60) + 3 * ((K : Rat) + 1)) = 100 * ((r : Rat) - 1) * (1048576 * (1 / 2 + v + 1 / 60)) + 100 * ((r : Rat) - 1) * (3 * ((K : Rat) + 1)) := by grind
    rw [ea, ex, hv] at g1
    grind
  · apply Rat.intCast_lt_intCast.mp
    rw [cast2, cast3]
    rw [ex, hv] at g2
    have ea : 100 * ((r : Rat) - 1) * ((low : Rat) + 3 * ((K : Rat) + 1) - (W : Rat) * 1048576) = 100 * ((r : Rat) - 1) * ((low : Rat) - (W : Rat) * 1048576) + 100 * ((r : Rat) - 1) * (3 * ((K : Rat) + 1)) := by grind
    rw [ea]
    grind
set_option maxHeartbeats 4000000
set_option linter.unusedVariables false
/-- what _ilog tells at M (p/r)^(2^j) -/
theorem told11 {c r σ : Int} {L j T : Nat} (hσ : σ = 1 ∨ σ = -1) (hc : 0 < c) (hr : 1 < r) (hr1 : 2 ^ L < r) (hr2 : r < 2 ^ (L + 1)) (hj : j ≤ L + 1) :
    (∀ R, R < j → c * r ^ 2 ^ (L + 1) * 2 ^ R ≤ ((ys (c * r ^ 2 ^ (L + 1)) (qi c (r + σ) r L j) R).natAbs : Int) * 2 ^ L) ∧
    ((ys (c * r ^ 2 ^ (L + 1)) (qi c (r + σ) r L j) j).natAbs : Int) * 2 ^ L < c * r ^ 2 ^ (L + 1) * 2 ^ j ∧
    (∀ R, R < j → 0 < c * r ^ 2 ^ (L + 1) + dn (ys (c * r ^ 2 ^ (L + 1)) (qi c (r + σ) r L j) R) (2 ^ R)) ∧
    dn (ys (c * r ^ 2 ^ (L + 1)) (qi c (r + σ) r L j) j) (2 ^ j) = σ * (c * r ^ (2 ^ (L + 1) - 1)) ∧
    dn (hw (c * r ^ 2 ^ (L + 1)) (σ * (c * r ^ (2 ^ (L + 1) - 1))) T (T - 1) * ys (c * r ^ 2 ^ (L + 1)) (qi c (r + σ) r L j) j) (c * r ^ 2 ^ (L + 1)) * (r + σ - r) = dn (2 ^ j * hw (c * r ^ 2 ^ (L + 1)) (σ * (c * r ^ (2 ^ (L + 1) - 1))) T (T - 1)) r := by
  have hp : 0 < r + σ := by omega
  have hM : 0 < c * r ^ 2 ^ (L + 1) := Int.mul_pos hc (Int.pow_pos (by omega))
  have hm0 : 0 < c * r ^ (2 ^ (L + 1) - 1) := Int.mul_pos hc (Int.pow_pos (by omega))
  have hX := two_pos L
  have ye := ys_exact (p := r + σ) (r := r) (L := L) hc hp (by omega) hj
  have e0 : qi c (r + σ) r L 0 - c * r ^ 2 ^ (L + 1) = σ * (c * r ^ (2 ^ (L + 1) - 1)) := by
    rw [qi_zero, M_eq]; grind
  have far := qi_far (p := r + σ) (L := L) hc hr (by omega) hr2
  have yj := ye j (Nat.le_refl _)
  rw [Nat.sub_self, e0] at yj
  refine ⟨fun R hR => ?_, ?_, fun R hR => ?_, ?_, ?_⟩
  · rw [ye R (by omega), Int.natAbs_mul]
    have h1 := (far (j - R - 1) (by omega)).1
    rw [show j - R - 1 + 1 = j - R by omega] at h1
    have hP := two_pos R
    have e : (((2 : Int) ^ R).natAbs : Int) = 2 ^ R := by omega
    rw [Int.natCast_mul, e]
    have h2 := Int.mul_le_mul_of_nonneg_right h1 (Int.le_of_lt hP)
    have e2 : 2 ^ R * ((qi c (r + σ) r L (j - R) - c * r ^ 2 ^ (L + 1)).natAbs : Int) * 2 ^ L = ((qi c (r + σ) r L (j - R) - c * r ^ 2 ^ (L + 1)).natAbs : Int) * 2 ^ L * 2 ^ R := by grind
    rw [e2]; exact h2
  · rw [yj, M_eq, Int.natAbs_mul]
    have hP := two_pos j
    have e : (((2 : Int) ^ j).natAbs : Int) = 2 ^ j := by omega
    have e2 : ((σ * (c * r ^ (2 ^ (L + 1) - 1))).natAbs : Int) = c * r ^ (2 ^ (L + 1) - 1) := by rcases hσ with rfl | rfl <;> omega
    rw [Int.natCast_mul, e, e2]
    generalize c * r ^ (2 ^ (L + 1) - 1) = m0 at *
    have h1 : m0 * 2 ^ L < m0 * r := Int.mul_lt_mul_of_pos_left hr1 hm0
    have h2 := Int.mul_lt_mul_of_pos_right h1 hP
    have e3 : 2 ^ j * m0 * 2 ^ L = m0 * 2 ^ L * 2 ^ j := by grind
    rw [e3]; exact h2
  · rw [ye R (by omega), dn_mul (two_pos R)]
    have := qi_pos (c := c) (p := r + σ) (r := r) (L := L) (i := j - R) hc hp (by omega)
    omega
  · rw [yj, dn_mul (two_pos j)]
  · rw [yj]
    generalize hw (c * r ^ 2 ^ (L + 1)) (σ * (c * r ^ (2 ^ (L + 1) - 1))) T (T - 1) = w at *
    rw [M_eq]
    generalize c * r ^ (2 ^ (L + 1) - 1) = m0 at *
    have e : w * (2 ^ j * (σ * m0)) = (σ * (2 ^ j * w)) * m0 := by grind
    rw [e, show m0 * r = r * m0 from Int.mul_comm .., dn_cancel (by omega) hm0]
    rcases hσ with rfl | rfl
    · rw [Int.one_mul]; grind
    · rw [show -1 * (2 ^ j * w) = -(2 ^ j * w) by grind, dn_neg (by omega)]; grind
/-- w is found again -/
theorem found11 {w r : Int} {L : Nat} (hr : 0 < r) (hr2 : r < 2 ^ (L + 1)) : dn (dn (2 ^ (L + 1) * w) r * r) (2 ^ (L + 1)) = w := by
  obtain ⟨h1, h2, _, _⟩ := dn_spec (a := 2 ^ (L + 1) * w) hr
  have hP := two_pos (L + 1)
  generalize dn (2 ^ (L + 1) * w) r = s at *
  have e : s * r = r * s := Int.mul_comm ..
  rw [e]
  refine dn_uniq hP ?_ ?_ ?_ ?_ <;> omega
set_option maxHeartbeats 4000000
set_option linter.unusedVariables false
set_option exponentiation.threshold 3000
theorem toNat_two (k : Nat) : ((2 : Int) ^ k).toNat = 2 ^ k := by
  have e : (2 : Int) ^ k = ((2 ^ k : Nat) : Int) := by simp
  rw [e]; rfl
abbrev s11A (M c mo r L : Int) (ns : List Int) : AS := ⟨[("M", .int M), ("c", .int c), ("most", .int mo), ("r", .int r), ("L", .int L), ("script", .lst (IL ns))], none⟩
abbrev s11B (p M c mo r L : Int) (ns : List Int) (l : List Int) : AS := ⟨[("p", .int p), ("M", .int M), ("c", .int c), ("most", .int mo), ("r", .int r), ("L", .int L), ("script", .lst (IL ns))], some ("sizes", IL l)⟩
theorem c_law {g : GX} (hg : GOk g) {ns : List Int} (hns : ns.length ≤ 63) : Calls g 3 "law" [.lst (IL ns)] fun v => v = .bool true := by
  refine Calls_of (n := 2) (ns := [Str.ofString "script"]) (hd := by rw [hg.p]; exact List.Mem.tail _ (List.Mem.tail _ (List.Mem.tail _ (List.Mem.tail _ (List.Mem.tail _ (List.Mem.tail _ (List.Mem.head _))))))) ?_ rfl rfl (by decide) rfl rfl rfl ?_
  · intro vs pm cd doc hv
    match vs, hv with
    | [x], _ => rfl
  · intro A Lo ad qual code
    refine Ex_cons (ExS_assign (Ev_cut (fun v => ∃ L : Nat, v = .int (L : Int) ∧ 1 ≤ L ∧ L ≤ 4) ?_ ?_) ⟨.inl rfl, trivial⟩)
    · refine Ev_bin (Ev_bin (Ev_bin (Ev_call (n := 1) rfl ?_ (show 1 ≤ 2 by decide) (hg := f_at hg))))
      repeat walk_at "mw"
      refine (c_at hg (k := 0) (by decide) hns).mono ?_
      rintro _ ⟨a, rfl, ha⟩
      repeat walk_at "mw"
      rw [Int.fmod_eq_emod_of_nonneg _ (by decide)]
      obtain ⟨L, hL⟩ : ∃ L : Nat, (a + 1) % 4 + 1 = (L : Int) := ⟨((a + 1) % 4 + 1).toNat, by omega⟩
      rw [hL]
      exact ⟨L, rfl, by omega, by omega⟩
    rintro _ ⟨L, rfl, hL1, hL4⟩
    have hX := two_pos L
    have hX2 : (2 : Int) ≤ 2 ^ L ∧ (2 : Int) ^ L ≤ 16 := by
      rcases (show L = 1 ∨ L = 2 ∨ L = 3 ∨ L = 4 by omega) with rfl | rfl | rfl | rfl <;> decide
    have hX1 : (2 : Int) ^ (L + 1) = 2 * 2 ^ L := by rw [Int.pow_succ]; omega
    have hb2 : intBits 2 = 2 := rfl
    refine Ex_cons (ExS_assign (Ev_cut (fun v => ∃ r : Int, v = .int r ∧ 2 ^ L < r ∧ r < 2 ^ (L + 1)) ?_ ?_) ⟨.inr ⟨rfl, rfl⟩, trivial⟩)
    · refine Ev_bin (Ev_bin (Ev_bin (Ev_const_int (Ev_name rfl (Bin_pow (by omega) (by rw [hb2]; omega) (Ev_const_int (Bin_add (Ev_bin (Ev_call (n := 1) rfl ?_ (show 1 ≤ 2 by decide) (hg := f_at hg))))))))))
      repeat walk_at "mw"
      refine (c_at hg (k := 1) (by decide) hns).mono ?_
      rintro _ ⟨a, rfl, ha⟩
      refine Ev_bin (Ev_bin (Ev_const_int (Ev_name rfl (Bin_pow (by omega) (by rw [hb2]; omega) ?_))))
      rw [Int.toNat_natCast]
      have hne : (2 : Int) ^ L - 1 ≠ 0 := by omega
      repeat walk_at "mw"
      rw [Int.fmod_eq_emod_of_nonneg _ (by omega)]
      have h1 := Int.emod_nonneg a (show (2 : Int) ^ L - 1 ≠ 0 by omega)
      have h2 := Int.emod_lt_of_pos a (show (0 : Int) < 2 ^ L - 1 by omega)
      exact ⟨_, rfl, by omega, by omega⟩
    rintro _ ⟨r, rfl, hr1, hr2⟩
    refine Ex_cons (ExS_assign (Ev_cut (fun v => v = .int (2 ^ (L + 1))) ?_ ?_) ⟨.inl rfl, trivial⟩)
    · repeat walk_at "mw"
      refine Bin_pow (by omega) (by rw [hb2]; omega) ?_
      rw [show ((L : Int) + 1).toNat = L + 1 by omega]
    rintro _ rfl
    refine Ex_cons (ExS_assign (Ev_cut (fun v => ∃ c : Int, v = .int c ∧ 0 < c ∧ c ≤ 10000000000) ?_ ?_) ⟨.inl rfl, trivial⟩)
    · refine Ev_bin (Ev_bin (Ev_call (n := 1) rfl ?_ (show 1 ≤ 2 by decide) (hg := f_at hg)))
      repeat walk_at "mw"
      refine (c_at hg (k := 2) (by decide) hns).mono ?_
      rintro _ ⟨a, rfl, ha⟩
      repeat walk_at "mw"
      refine Bin_pow (by decide) (by decide) ?_
      refine Bin_mod (by decide) ?_
      repeat walk_at "mw"
      rw [Int.fmod_eq_emod_of_nonneg _ (by decide)]
      have e1 : (10 : Int) ^ (10 : Int).toNat = 10000000000 := by decide
      rw [e1]
      exact ⟨_, rfl, by omega, by omega⟩
    rintro _ ⟨c, rfl, hc, hc10⟩
    have hcb : intBits c ≤ 34 := lt_bits (by omega)
    have hrb : intBits r ≤ 6 := lt_bits (by omega)
    have hk32 : 2 ^ (L + 1) ≤ 32 := by
      rcases (show L = 1 ∨ L = 2 ∨ L = 3 ∨ L = 4 by omega) with rfl | rfl | rfl | rfl <;> decide
    have hpwb : ∀ (a : Int) (k : Nat), intBits a ≤ 6 → k ≤ 32 → intBits (a ^ k) ≤ 193 := fun a k ha hk => Nat.le_trans (intBits_pow_le ha k) (by omega)
    refine Ex_cons (ExS_assign (Ev_cut (fun v => v = .int (c * r ^ 2 ^ (L + 1))) ?_ ?_) ⟨.inl rfl, trivial⟩)
    · repeat walk_at "mw"
      refine Bin_pow (by omega) (by have : (intBits r : Int) * 2 ^ (L + 1) ≤ 6 * 32 := Int.mul_le_mul (by omega) (by omega) (by omega) (by decide); omega) ?_
      rw [toNat_two]
      exact Bin_mul (IntMulOk.of_le hcb (hpwb r _ hrb hk32) (by decide)) rfl
    rintro _ rfl
    have hrp : 0 < r := by omega
    have hM : 0 < c * r ^ 2 ^ (L + 1) := Int.mul_pos hc (Int.pow_pos hrp)
    have hMb : intBits (c * r ^ 2 ^ (L + 1)) ≤ 227 := intBits_mul_le hcb (hpwb r _ hrb hk32)
    obtain ⟨f, hf, hf1, hf2⟩ := figures hM
    obtain ⟨T, hT0, hT, hTl⟩ := rows_T (L := L) hf (by omega)
    obtain ⟨_, hrow⟩ := rows11' (T := T) hL1 hL4 hc hr1 hf2 hTl
    have hm0 : 0 < c * r ^ (2 ^ (L + 1) - 1) := Int.mul_pos hc (Int.pow_pos hrp)
    refine Ex_cons (ExS_for ?_)
    repeat walk_at "mw"
    refine ⟨_, .tup _, fun _ S' => S' = s11A (c * r ^ 2 ^ (L + 1)) c (2 ^ (L + 1)) r L ns, ⟨s11A (c * r ^ 2 ^ (L + 1)) c (2 ^ (L + 1)) r L ns, by walk_at "le", rfl⟩, ?_, ?_⟩
    · rintro i S' av hi rfl
      obtain ⟨σ, rfl, hσ⟩ : ∃ σ : Int, av = .int (r + σ) ∧ (σ = 1 ∨ σ = -1) := by
        match i, hi with
        | 0, hi => cases hi; exact ⟨1, rfl, .inl rfl⟩
        | 1, hi => cases hi; exact ⟨-1, by rw [Int.sub_eq_add_neg], .inr rfl⟩
        | n + 2, hi => cases hi
      clear hi
      have hpb : intBits (r + σ) ≤ 6 := lt_bits (by omega)
      generalize hwdef : hw (c * r ^ 2 ^ (L + 1)) (σ * (c * r ^ (2 ^ (L + 1) - 1))) T (T - 1) = w at *
      refine ⟨⟨.inl rfl, trivial⟩, ?_⟩
      refine Ex_cons (ExS_newOwn (Evs_nil ?_) rfl rfl (.inl rfl))
      refine Ex_cons (ExS_for ?_)
      repeat walk_at "mw"
      have hrs : Builtin.Range.rangeSize 0 ((L : Int) + 2) 1 = ((L + 2 : Nat) : Int) := by rw [rng_up]; omega
      refine ⟨_, .rng _ _ _ _ hrs, fun i S' => S' = s11B (r + σ) (c * r ^ 2 ^ (L + 1)) c (2 ^ (L + 1)) r L ns ((List.range i).map fun j : Nat => dn (2 ^ j * w) r), ⟨s11B (r + σ) (c * r ^ 2 ^ (L + 1)) c (2 ^ (L + 1)) r L ns [], by walk_at "le", rfl⟩, ?_, ?_⟩
      · rintro j S' av hi rfl
        obtain ⟨hjL, rfl⟩ := rngL_get hi
        clear hi
        rw [show (0 : Int) + j * 1 = j by omega]
        refine ⟨⟨.inl rfl, rfl⟩, ?_⟩
        have hkj : 2 ^ j ≤ 2 ^ (L + 1) := Nat.pow_le_pow_right (by decide) (by omega)
        have hkjI : (2 : Int) ^ j ≤ 2 ^ (L + 1) := by
          have e : ∀ n : Nat, (2 : Int) ^ n = ((2 ^ n : Nat) : Int) := fun n => by simp
          rw [e, e]; exact Int.ofNat_le.mpr hkj
        have hPj := two_pos j
        have hpj : (intBits 2 : Int) * (j : Int) ≤ 2 ^ 27 := by rw [hb2]; omega
        obtain ⟨t1, t2, t3, t4, t5⟩ := told11 (T := T) (j := j) hσ hc (by omega) hr1 hr2 (by omega)
        rw [hwdef] at t5
        refine Ex_cons (ExS_assign (Ev_call (n := 2) rfl (Evs_cons (Ev_cut (fun v => v = .int (qi c (r + σ) r L j)) ?_ ?_)) (Nat.le_refl _) (hg := ⟨_, f_ilog hg⟩)) ⟨.inl rfl, rfl⟩)
        · refine Ev_bin (Ev_bin (Ev_name rfl (Ev_bin (Ev_name rfl (Ev_bin (Ev_const_int (Ev_name rfl (Bin_pow (by omega) hpj ?_))))))))
          rw [Int.toNat_natCast]
          have hpx : (intBits (r + σ) : Int) * 2 ^ j ≤ 2 ^ 27 := by
            have : (intBits (r + σ) : Int) * 2 ^ j ≤ 6 * 32 := Int.mul_le_mul (by omega) (by omega) (by omega) (by decide)
            omega
          refine Bin_pow (by omega) hpx ?_
          rw [toNat_two]
          refine Bin_mul (IntMulOk.of_le hcb (hpwb _ _ hpb (by omega)) (by decide)) ?_
          refine Ev_bin (Ev_name rfl (Ev_bin (Ev_name rfl (Ev_bin (Ev_const_int (Ev_name rfl (Bin_pow (by omega) hpj ?_)))))))
          rw [Int.toNat_natCast]
          refine Bin_sub ?_
          have hrx : (intBits r : Int) * (2 ^ (L + 1) - 2 ^ j) ≤ 2 ^ 27 := by
            have : (intBits r : Int) * (2 ^ (L + 1) - 2 ^ j) ≤ 6 * 32 := Int.mul_le_mul (by omega) (by omega) (by omega) (by decide)
            omega
          refine Bin_pow (by omega) hrx ?_
          have et : ((2 : Int) ^ (L + 1) - 2 ^ j).toNat = 2 ^ (L + 1) - 2 ^ j := by
            have e : ∀ n : Nat, (2 : Int) ^ n = ((2 ^ n : Nat) : Int) := fun n => by simp
            rw [e, e]; omega
          rw [et]
          exact Bin_mul (IntMulOk.of_le (intBits_mul_le hcb (hpwb _ _ hpb (by omega))) (hpwb _ _ hrb (by omega)) (by decide)) rfl
        rintro _ rfl
        repeat walk_at "mw"
        have hyb : ∀ R, R ≤ j → intBits (ys (c * r ^ 2 ^ (L + 1)) (qi c (r + σ) r L j) R) ≤ 60000 := by
          intro R hR
          rw [ys_exact hc (by omega) hrp (by omega) R hR]
          have hq : intBits (qi c (r + σ) r L (j - R)) ≤ 500 := by
            unfold qi
            have hk1 : 2 ^ (j - R) ≤ 2 ^ (L + 1) := Nat.pow_le_pow_right (by decide) (by omega)
            exact Nat.le_trans (intBits_mul_le (intBits_mul_le hcb (hpwb (r + σ) (2 ^ (j - R)) hpb (Nat.le_trans hk1 hk32))) (hpwb r (2 ^ (L + 1) - 2 ^ (j - R)) hrb (Nat.le_trans (Nat.sub_le _ _) hk32))) (by decide)
          have h2R : intBits ((2 : Int) ^ R) ≤ 10 := by
            refine lt_bits ?_
            have : ((2 : Int) ^ R).natAbs = 2 ^ R := by rw [Int.natAbs_pow]; rfl
            rw [this]
            exact Nat.pow_lt_pow_right (by decide) (by omega)
          exact Nat.le_trans (intBits_mul_le h2R (intBits_sub_le hq hMb)) (by decide)
        refine (c_ilogN hg hM (by omega) (by omega) (by omega) (by omega) t1 t2 t3 hyb hf hf1 hf2 hT0 hT).mono ?_
        rintro _ rfl
        rw [t4, hwdef]
        generalize dn (w * ys (c * r ^ 2 ^ (L + 1)) (qi c (r + σ) r L j) j) (c * r ^ 2 ^ (L + 1)) = told at *
        refine Ex_cons (ExS_if ?_)
        repeat walk_at "mw"
        refine CallB_typeI ?_
        repeat walk_at "mw"
        refine Cmp_isnotT ?_
        repeat walk_at "mw"
        refine ExS_append rfl ?_
        repeat walk_at "mw"
        refine Bin_mul (IntMulOk.small_r (by omega)) ?_
        refine ⟨by simp; omega, Ex_nil ?_⟩
        rw [t5]
        refine ⟨s11B (r + σ) (c * r ^ 2 ^ (L + 1)) c (2 ^ (L + 1)) r L ns ((List.range (j + 1)).map fun j : Nat => dn (2 ^ j * w) r), ?_, rfl⟩
        rw [List.range_succ, List.map_append]
        refine AS.le_of ?_ (by simp [IL])
        repeat (first | (refine List.forall_mem_cons.mpr ⟨rfl, ?_⟩) | exact List.forall_mem_nil _)
      · rintro S' rfl
        rw [rngL_len]
        refine Ex.freeze rfl ?_
        have hlenS : ((List.range (L + 2)).map fun j : Nat => dn (2 ^ j * w) r).length = L + 2 := by simp
        have hwb : intBits w ≤ 300 := by
          rw [← hwdef]
          refine Nat.le_trans (hw_bits (j := T - 1) hM ?_ hMb (by omega)) (by decide)
          have e : ((σ * (c * r ^ (2 ^ (L + 1) - 1))).natAbs : Int) = c * r ^ (2 ^ (L + 1) - 1) := by
            rcases hσ with rfl | rfl <;> omega
          rw [e, M_eq]
          have : c * r ^ (2 ^ (L + 1) - 1) * 2 ≤ c * r ^ (2 ^ (L + 1) - 1) * r := Int.mul_le_mul_of_nonneg_left (by omega) (by omega)
          omega
        have h2b : ∀ j : Nat, j ≤ L + 1 → intBits ((2 : Int) ^ j) ≤ 10 := by
          intro j hj
          refine lt_bits ?_
          have : ((2 : Int) ^ j).natAbs = 2 ^ j := by rw [Int.natAbs_pow]; rfl
          rw [this]
          exact Nat.pow_lt_pow_right (by decide) (by omega)
        have hsb : intBits (dn (2 ^ (L + 1) * w) r) ≤ 310 := dn_bits hrp (intBits_mul_le (h2b _ (Nat.le_refl _)) hwb)
        generalize hlist : ((List.range (L + 2)).map fun j : Nat => dn (2 ^ j * w) r) = sizes at *
        have hlast : sizes[L + 1]? = some (dn (2 ^ (L + 1) * w) r) := by
          rw [← hlist, List.getElem?_map, List.getElem?_range (by omega)]; rfl
        refine Ex_cons (ExS_assign (Ev_call (n := 1) rfl (Evs_cons (Ev_bin (Ev_item (Ev_name rfl ?_)))) (show 1 ≤ 2 by decide) (hg := f_near hg)) ⟨.inr ⟨rfl, rfl⟩, trivial⟩)
        repeat walk_at "mw"
        refine Itm_listN (by decide) (by rw [List.length_map, hlenS]; omega) (by decide) (av := .int (dn (2 ^ (L + 1) * w) r)) ?_ ?_
        · rw [List.length_map, hlenS, show (-1 + ((L + 2 : Nat) : Int)).toNat = L + 1 by omega, List.getElem?_map, hlast]; rfl
        repeat walk_at "mw"
        refine Bin_mul (IntMulOk.of_le hsb hrb (by decide)) ?_
        repeat walk_at "mw"
        refine (c_near hg (two_pos (L + 1)) (Nat.le_trans (intBits_mul_le hsb hrb) (by decide)) (Nat.le_trans (h2b _ (Nat.le_refl _)) (by decide))).mono ?_
        rintro _ rfl
        rw [found11 hrp hr2]
        refine Ex_cons (ExS_if (Tst_cmp (Ev_name rfl (Ev_comp [("w", .int w), ("r", .int r)] (fun _ => true) (fun n => dn (2 ^ n.toNat * w) r) rfl ?_))))
        repeat walk_at "mw"
        have hup := Items_up 0 ((L : Int) + 2)
        rw [show ((L : Int) + 2 - 0).toNat = L + 2 by omega] at hup
        refine ⟨_, hup, by simp; omega, ⟨by walk_at "cap", fun n hn a => rfl, ?_⟩, ?_⟩
        · intro n hn _ a
          obtain ⟨j, hj, rfl⟩ := List.mem_map.mp hn
          have hj' := List.mem_range.mp hj
          rw [show (0 : Int) + j = j by omega]
          refine Ev_call (n := 1) rfl (Evs_cons (Ev_bin (Ev_bin (Ev_const_int (Ev_name rfl (Bin_pow (by omega) (by rw [hb2]; omega) (Ev_name rfl ?_))))))) (show 1 ≤ 2 by decide) (hg := f_near hg)
          rw [Int.toNat_natCast]
          refine Bin_mul (IntMulOk.of_le (h2b j (by omega)) hwb (by decide)) ?_
          repeat walk_at "mw"
          exact c_near hg hrp (Nat.le_trans (intBits_mul_le (h2b j (by omega)) hwb) (by decide)) (by omega)
        have hsame : ((((List.range (L + 2)).map fun i : Nat => (0 : Int) + i).filter fun _ => true).map fun n => dn (2 ^ n.toNat * w) r) = sizes := by
          rw [← hlist, List.filter_eq_self.mpr (fun _ _ => rfl), List.map_map]
          apply List.map_congr_left
          intro j _
          show dn (2 ^ ((0 : Int) + j).toNat * w) r = _
          rw [show ((0 : Int) + j).toNat = j by omega]
        rw [hsame]
        refine Cmp_neL ?_
        repeat walk_at "mw"
        refine ifD (fun h => absurd rfl h) (fun _ => ?_)
        repeat walk_at "mw"
        refine Ev_call (n := 1) rfl ?_ (show 1 ≤ 2 by decide) (hg := f_log hg)
        repeat walk_at "mw"
        refine Bin_mul (IntMulOk.of_le hrb hMb (by decide)) ?_
        repeat walk_at "mw"
        refine Bin_pow (by decide) (by decide) ?_
        rw [show (2 : Int) ^ (20 : Int).toNat = 1048576 from rfl]
        refine Bin_mul (IntMulOk.of_right (by decide)) ?_
        repeat walk_at "mw"
        generalize hMdef : c * r ^ 2 ^ (L + 1) = M at *
        have hscb : intBits (r * M * 1048576) ≤ 300 := Nat.le_trans (intBits_mul_le (intBits_mul_le hrb hMb) (show intBits 1048576 ≤ 21 by decide)) (by decide)
        have hsc0 : 0 ≤ r * M * 1048576 := Int.mul_nonneg (Int.mul_nonneg (by omega) (by omega)) (by decide)
        have hscl : r * M * 1048576 < 2 ^ 300 := by
          have h := bits_lt hscb
          have e3 : (2 : Int) ^ 300 = ((2 ^ 300 : Nat) : Int) := by decide
          omega
        refine (c_log hg (B := 300) (by omega) (by omega) (by omega) hsc0 hscl (by decide) (Nat.le_trans (lt_bits (m := 10) (by omega)) (by decide))).mono ?_
        rintro _ ⟨K, hK, hKe, rfl⟩
        have hp := p11 (T := T) (K := K) (m0 := c * r ^ (2 ^ (L + 1) - 1)) hσ (by omega) hm0 (by rw [← hMdef]; exact M_eq) hT0 hrow (by omega) hKe
        rw [hwdef] at hp
        refine ⟨_, _, rfl, ?_⟩
        generalize ls (max (r + σ) r - min (r + σ) r) (max (r + σ) r + min (r + σ) r) (r * M * 1048576) K = low at *
        refine Ex_cons (ExS_assign (Ev_cut (fun v => v = .int (1048576 * (50 * (r - 1) + 100 + 2 * (r - 1)))) ?_ ?_) ⟨.inl rfl, trivial⟩)
        · repeat walk_at "mw"
          refine Bin_pow (by decide) (by decide) ?_
          rw [show (2 : Int) ^ (20 : Int).toNat = 1048576 from rfl]
          repeat walk_at "mw"
          rfl
        rintro _ rfl
        have hb100 : intBits (100 * (r - 1)) ≤ 20 := lt_bits (by omega)
        repeat walk_at "mw"
        refine Bin_pow (by decide) (by decide) ?_
        rw [show (2 : Int) ^ (20 : Int).toNat = 1048576 from rfl]
        refine Bin_mul (IntMulOk.of_right (by decide)) ?_
        repeat walk_at "mw"
        refine Bin_mul (IntMulOk.of_left (Nat.le_trans hb100 (by decide))) ?_
        repeat walk_at "mw"
        refine ifD (fun h => by omega) (fun _ => ?_)
        repeat walk_at "mw"
        refine Bin_pow (by decide) (by decide) ?_
        rw [show (2 : Int) ^ (20 : Int).toNat = 1048576 from rfl]
        refine Bin_mul (IntMulOk.of_right (by decide)) ?_
        repeat walk_at "mw"
        refine Bin_mul (IntMulOk.of_left (Nat.le_trans hb100 (by decide))) ?_
        repeat walk_at "mw"
        refine ifD (fun h => by omega) (fun _ => ?_)
        repeat walk_at "mw"
        exact ⟨s11A M c (2 ^ (L + 1)) r L ns, by walk_at "le", rfl⟩
    · rintro S' rfl
      repeat walk_at "mw"
      rfl
theorem holds11 : PySem.Challenge.rw_dm0263_11.Holds := hd (by
  k_fill
  intro w s₀ s₁ mg mb G Y fa o pm cd doc dV kV ho hd' hcd hD hmg hg args vals as hpre hlay hrd hwl hlo
  refine Ground.open G ?_
  intro T B D TE TW
  have KX := kIn_of Y
  wrow_args hpre hlay hrd hwl hlo
  rename_i ns _ _ hLay _ _ _ _ la vs _ hL _ _ _ hI _ hlen _
  have nob : ∀ x ∈ bltNames, mg x = none := by
    intro x hx
    simp only [bltNames, List.mem_cons, List.not_mem_nil, or_false] at hx
    rcases hx with rfl | rfl | rfl | rfl | rfl | rfl | rfl | rfl | rfl | rfl | rfl | rfl | rfl | rfl <;> exact T.free _ (by decide +kernel) (by decide +kernel) (by decide +kernel) (by decide +kernel) (by decide +kernel)
  refine law_go (l := PySem.Challenge.rw_dm0263_11) (g := ⟨_, w, _, _, _, mg, mb, (hd.heap_39 w.params).In, fun _ _ x k => Frag.In.keeps x k, rfl, by decide +kernel, ⟨_, T, KX⟩, nob⟩) rfl ⟨T, KX⟩ hg hmg hL hI (n := 3) (by decide) (c_law ⟨rfl, rfl⟩ (by omega)))
end Mine
theorem PySem.Challenge.cw_dm0263_11_holds : PySem.Challenge.rw_dm0263_11.Holds :=
  Mine.holds11
