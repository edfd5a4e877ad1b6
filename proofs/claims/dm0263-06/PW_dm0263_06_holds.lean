import PyProof.Rows.All
import Wide.All
import OpenK.AllK
import Wide.FinOn
import PyProof.NsDelKeeps
import PyProof.ExcFactsAll.ValueError
import PyProof.ExcStrAll.ValueError
import PyProof.ExcStrCall
import PyProof.FactsAll.tuple_2
import PySem.Challenge.RW_dm0263_06
set_option Elab.async false
set_option maxHeartbeats 4000000
set_option maxRecDepth 100000
open PySem PySem.W PyProof.Rows
namespace Mine

/-- nothing that stands is changed -/
abbrev StIn (h h' : Heap) : Prop := ∀ b o, h.get? b = some o → h'.get? b = some o

theorem StIn.refl (h : Heap) : StIn h h := fun _ _ e => e
theorem StIn.trans {a b c : Heap} (x : StIn a b) (y : StIn b c) : StIn a c := fun p o e => y p o (x p o e)
theorem StIn.push (h : Heap) (o : Obj) : StIn h (h.push o) := fun _ _ e => Heap.get?_push_of_some o e

/-- abstract values -/
inductive AV where
  | int (i : Int)
  | bool (b : Bool)
  | none
  | str (s : Str)
  | ty (n : String)
  | bi (n : String)
  | rng (a b c : Int)
  | tup (l : List AV)
  | lst (l : List AV)

mutual
def RelV (X : List Addr) (h : Heap) : AV → Value → Prop
  | .int i, v => ∃ t, v = .int i t
  | .bool b, v => v = .bool b
  | .none, v => v = .none
  | .str s, v => ∃ t, v = .str s t
  | .ty n, v => v = .type n
  | .bi n, v => v = .builtin n
  | .rng a b c, v => ∃ r t u w, v = .ref r ∧ IsRange h r a b c t u w
  | .tup l, v => ∃ a vs, v = .ref a ∧ h.IsTuple a vs.toArray ∧ RelVs X h l vs
  | .lst l, v => ∃ a vs, v = .ref a ∧ a ∉ X ∧ h.IsList a vs.toArray ∧ RelVs X h l vs
def RelVs (X : List Addr) (h : Heap) : List AV → List Value → Prop
  | [], vs => vs = []
  | a :: l, vs => ∃ v r, vs = v :: r ∧ RelV X h a v ∧ RelVs X h l r
end

/-- the objects that values are made of -/
def isVal (o : Obj) : Prop := (∃ xs n, o.data = .seq xs n) ∨ (o.cls = .type "range" ∧ ∃ fs, o.data = .fields fs)

mutual
theorem RelV.mono {X Y : List Addr} {h h' : Heap} (hk : ∀ a o, a ∉ X → isVal o → h.get? a = some o → h'.get? a = some o) (htup : ∀ a o, isVal o → o.cls ≠ .type "list" → h.get? a = some o → h'.get? a = some o) (hY : ∀ p, p ∈ Y → p ∈ X) : (av : AV) → (v : Value) → RelV X h av v → RelV Y h' av v
  | .int _, _, r => r
  | .bool _, _, r => r
  | .none, _, r => r
  | .str _, _, r => r
  | .ty _, _, r => r
  | .bi _, _, r => r
  | .rng _ _ _, _, ⟨r, t, u, w, e, hr⟩ => ⟨r, t, u, w, e, htup _ _ (.inr ⟨rfl, _, rfl⟩) (show Value.type "range" ≠ Value.type "list" by decide) hr⟩
  | .tup l, _, ⟨a, vs, e, ⟨o, ho, hc, n, hd⟩, rr⟩ => ⟨a, vs, e, ⟨o, htup a o (.inl ⟨_, n, hd⟩) (by rw [hc]; decide) ho, hc, n, hd⟩, RelVs.mono hk htup hY l vs rr⟩
  | .lst l, _, ⟨a, vs, e, hx, ⟨o, ho, hc, n, hd⟩, rr⟩ => ⟨a, vs, e, fun q => hx (hY a q), ⟨o, hk a o hx (.inl ⟨_, n, hd⟩) ho, hc, n, hd⟩, RelVs.mono hk htup hY l vs rr⟩
theorem RelVs.mono {X Y : List Addr} {h h' : Heap} (hk : ∀ a o, a ∉ X → isVal o → h.get? a = some o → h'.get? a = some o) (htup : ∀ a o, isVal o → o.cls ≠ .type "list" → h.get? a = some o → h'.get? a = some o) (hY : ∀ p, p ∈ Y → p ∈ X) : (l : List AV) → (vs : List Value) → RelVs X h l vs → RelVs Y h' l vs
  | [], _, r => r
  | a :: l, _, ⟨v, r, e, h1, h2⟩ => ⟨v, r, e, RelV.mono hk htup hY a v h1, RelVs.mono hk htup hY l r h2⟩
end

/-- value objects off X stand, and all but lists stand wherever they are -/
structure VKeep (X : List Addr) (h h' : Heap) : Prop where
  off : ∀ a o, a ∉ X → isVal o → h.get? a = some o → h'.get? a = some o
  imm : ∀ a o, isVal o → o.cls ≠ .type "list" → h.get? a = some o → h'.get? a = some o

theorem VKeep.of (X : List Addr) {h h' : Heap} (x : StIn h h') : VKeep X h h' := ⟨fun a o _ _ e => x a o e, fun a o _ _ e => x a o e⟩
theorem VKeep.refl (X : List Addr) (h : Heap) : VKeep X h h := .of X (StIn.refl h)
theorem VKeep.trans {X : List Addr} {a b c : Heap} (x : VKeep X a b) (y : VKeep X b c) : VKeep X a c := ⟨fun p o hp hv e => y.off p o hp hv (x.off p o hp hv e), fun p o hv hc e => y.imm p o hv hc (x.imm p o hv hc e)⟩
theorem VKeep.sub {X Y : List Addr} {a b : Heap} (x : VKeep X a b) (hs : ∀ p, p ∈ X → p ∈ Y) : VKeep Y a b := ⟨fun p o hp hv e => x.off p o (fun q => hp (hs p q)) hv e, x.imm⟩

theorem RelV.keep {X : List Addr} {h h' : Heap} {av : AV} {v : Value} (r : RelV X h av v) (k : VKeep X h h') : RelV X h' av v := RelV.mono k.off k.imm (fun _ q => q) av v r
theorem RelVs.keep {X : List Addr} {h h' : Heap} {l : List AV} {vs : List Value} (r : RelVs X h l vs) (k : VKeep X h h') : RelVs X h' l vs := RelVs.mono k.off k.imm (fun _ q => q) l vs r
theorem RelV.st {X : List Addr} {h h' : Heap} {av : AV} {v : Value} (r : RelV X h av v) (k : StIn h h') : RelV X h' av v := r.keep (.of X k)
theorem RelVs.st {X : List Addr} {h h' : Heap} {l : List AV} {vs : List Value} (r : RelVs X h l vs) (k : StIn h h') : RelVs X h' l vs := r.keep (.of X k)
theorem RelV.less {X Y : List Addr} {h : Heap} {av : AV} {v : Value} (r : RelV X h av v) (hs : ∀ p, p ∈ Y → p ∈ X) : RelV Y h av v := RelV.mono (fun _ _ _ _ e => e) (fun _ _ _ _ e => e) hs av v r
theorem RelVs.less {X Y : List Addr} {h : Heap} {l : List AV} {vs : List Value} (r : RelVs X h l vs) (hs : ∀ p, p ∈ Y → p ∈ X) : RelVs Y h l vs := RelVs.mono (fun _ _ _ _ e => e) (fun _ _ _ _ e => e) hs l vs r

theorem RelVs.length {X : List Addr} {h : Heap} : ∀ {l : List AV} {vs : List Value}, RelVs X h l vs → vs.length = l.length
  | [], _, r => by rw [show _ = [] from r]; rfl
  | _ :: l, _, ⟨v, r, e, _, h2⟩ => by rw [e, List.length_cons, List.length_cons, h2.length]
theorem RelVs.get {X : List Addr} {h : Heap} : ∀ {l : List AV} {vs : List Value} (_ : RelVs X h l vs) (i : Nat) (a : AV), l[i]? = some a → ∃ v, vs[i]? = some v ∧ RelV X h a v
  | b :: l, _, ⟨v, r, e, h1, h2⟩, 0, a, hi => by
    have : b = a := by simpa using hi
    exact ⟨v, by rw [e]; rfl, this ▸ h1⟩
  | b :: l, _, ⟨v, r, e, h1, h2⟩, i + 1, a, hi => by
    obtain ⟨v', hv', hr⟩ := h2.get i a (by simpa using hi)
    exact ⟨v', by rw [e]; simpa using hv', hr⟩
theorem RelVs.append {X : List Addr} {h : Heap} : ∀ {l l' : List AV} {vs vs' : List Value}, RelVs X h l vs → RelVs X h l' vs' → RelVs X h (l ++ l') (vs ++ vs')
  | [], _, _, _, r, r' => by rw [show _ = [] from r]; exact r'
  | _ :: l, _, _, _, ⟨v, r, e, h1, h2⟩, r' => ⟨v, r ++ _, by rw [e]; rfl, h1, h2.append r'⟩
theorem RelVs.of {X : List Addr} {h : Heap} : ∀ {l : List AV} {vs : List Value}, vs.length = l.length → (∀ (i : Nat) (a : AV) (v : Value), l[i]? = some a → vs[i]? = some v → RelV X h a v) → RelVs X h l vs
  | [], vs, e, _ => by cases vs with | nil => rfl | cons _ _ => simp at e
  | a :: l, vs, e, hr => by
    cases vs with
    | nil => simp at e
    | cons v r => exact ⟨v, r, rfl, hr 0 a v rfl rfl, RelVs.of (by simpa using e) fun i a' v' h1 h2 => hr (i + 1) a' v' (by simpa using h1) (by simpa using h2)⟩

/-- the built-in names that are used -/
def bltNames : List Str := ["abs", "len", "divmod", "isinstance", "range", "sum", "min", "max", "str", "int", "bool", "sorted", "type", "ValueError"]
/-- the program at hand -/
structure GX where
  prog : Program
  w : World
  p : Program
  loose : List Str
  mean : ExcName → Option Value
  mg : Str → Option Value
  mb : Str → Option Value
  ex : Heap → Prop
  exm : ∀ h h', ex h → StIn h h' → ex h'
  tree : prog.given.tree = none
  noimp : importsNone p = true
  inh : ∃ h, Top p loose mean mg mb h ∧ ex h
  nob : ∀ x ∈ bltNames, mg x = none

structure PG (g : GX) (h : Heap) : Prop where
  top : Top g.p g.loose g.mean g.mg g.mb h
  ex : g.ex h
theorem PG.st {g : GX} {h h' : Heap} (x : PG g h) (k : StIn h h') : PG g h' := ⟨x.top.keeps k, g.exm _ _ x.ex k⟩

structure Room (A : Around) (n : Nat) : Prop where
  hh : A.handled = none
  depth : A.depth + n + 110 < recursionLimit
  units : A.units + 16 * n + 100 < cLine
  fr : ∃ l, A.frames = some l
theorem Room.le {A : Around} {n k : Nat} (x : Room A n) (hk : k ≤ n) : Room A k := ⟨x.hh, by have := x.depth; omega, by have := x.units; omega, x.fr⟩

structure CX where
  g : GX
  A : Around
  env : Env
  n : Nat

structure CX.Ok (C : CX) : Prop where
  room : Room C.A C.n
  kind : C.env.scope.kind = .function
  glob : C.env.globals = mainGlobals
  blt : C.env.builtins = builtinsNs
  seer : ∃ e l, C.A.frames = some (e :: l) ∧ e.scope.isGenerator = false ∧ e.scope.isCoroutine = false ∧ e.builtins = builtinsNs ∧ e.globals = mainGlobals

theorem CX.Ok.pylong {C : CX} (k : C.Ok) {s : Shared} (p : PG C.g s.heap) : PylongRoom (model C.g.prog C.g.w) C.A s := by
  obtain ⟨e, l, h1, h2, h3, h4, h5⟩ := k.seer
  refine PylongRoom.of p.top.nolimit ?_ (SeerAt.of (p.top.seer C.g.noimp) C.g.tree h1 h2 h3 h4 h5)
  have := k.room.depth
  show C.A.depth + 100 < recursionLimit
  omega

/-- a name that reads as v -/
def Rd (env : Env) (h : Heap) (x : Str) (v : Value) : Prop :=
  (env.kindOf x = some .local ∧ ∃ m, h.Ns env.locals m ∧ m x = some v) ∨ ((env.kindOf x = some .cell ∨ env.kindOf x = some .free) ∧ ∃ c, env.cells.lookup x = some c ∧ h.IsCell c (some v))
theorem Rd.st {env : Env} {h h' : Heap} {x : Str} {v : Value} (r : Rd env h x v) (k : StIn h h') : Rd env h' x v := by
  rcases r with ⟨hl, m, hn, hv⟩ | ⟨hl, c, hc, hv⟩
  · exact .inl ⟨hl, m, hn.keeps k, hv⟩
  · exact .inr ⟨hl, c, hc, hv.keeps k⟩

abbrev AM := List (Str × AV)
structure AS where
  vs : AM
  own : Option (Str × List AV) := none

def RelE (env : Env) (X : List Addr) (h : Heap) (S : AM) : Prop := ∀ x av, S.lookup x = some av → ∃ v, Rd env h x v ∧ RelV X h av v
theorem RelE.st {env : Env} {X : List Addr} {h h' : Heap} {S : AM} (r : RelE env X h S) (k : StIn h h') : RelE env X h' S := fun x av e => let ⟨v, h1, h2⟩ := r x av e; ⟨v, h1.st k, h2.st k⟩

/-- the own list stands at b -/
structure OwnAt (env : Env) (X : List Addr) (h : Heap) (x : Str) (l : List AV) (b : Addr) (vs : List Value) : Prop where
  rd : Rd env h x (.ref b)
  inX : b ∈ X
  lst : h.PlainList b vs.toArray
  rel : RelVs X h l vs
theorem OwnAt.st {env : Env} {X : List Addr} {h h' : Heap} {x : Str} {l : List AV} {b : Addr} {vs : List Value} (r : OwnAt env X h x l b vs) (k : StIn h h') : OwnAt env X h' x l b vs :=
  ⟨r.rd.st k, r.inX, r.lst.at fun o e => k b o e, r.rel.st k⟩

def RelS (env : Env) (X : List Addr) (h : Heap) (S : AS) : Prop := RelE env X h S.vs ∧ ∀ x l, S.own = some (x, l) → ∃ b vs, OwnAt env X h x l b vs
theorem RelS.st {env : Env} {X : List Addr} {h h' : Heap} {S : AS} (r : RelS env X h S) (k : StIn h h') : RelS env X h' S := ⟨r.1.st k, fun x l e => let ⟨b, vs, h1⟩ := r.2 x l e; ⟨b, vs, h1.st k⟩⟩

def XIn (X : List Addr) (h : Heap) : Prop := ∀ a ∈ X, (h.get? a).isSome = true
theorem XIn.st {X : List Addr} {h h' : Heap} (x : XIn X h) (k : StIn h h') : XIn X h' := fun a ha => by
  obtain ⟨o, ho⟩ := Option.isSome_iff_exists.mp (x a ha)
  rw [k a o ho]; rfl
theorem XIn.fresh {X : List Addr} {h : Heap} (x : XIn X h) : h.objs.size ∉ X := fun q => by
  obtain ⟨o, ho⟩ := Option.isSome_iff_exists.mp (x _ q)
  exact absurd (Heap.lt_size ho) (Nat.lt_irrefl _)
theorem XIn.none {X : List Addr} {h : Heap} (x : XIn X h) {a : Addr} (e : h.get? a = none) : a ∉ X := fun q => by
  have := x a q; rw [e] at this; cases this

/-- an expression: it gives a value with Φ, and changes nothing that stands -/
structure Ev (C : CX) (S : AS) (e : Expr) (Φ : AV → Prop) : Prop where
  go : C.Ok → ∀ (X : List Addr) (s : Shared) (Q : Value → Shared → Prop) (E : Value → Shared → Prop), PG C.g s.heap → XIn X s.heap → RelS C.env X s.heap S →
    (∀ av v h' tk, StIn s.heap h' → RelV X h' av v → Φ av → Q v { s with heap := h', toks := tk }) → wpAny (model C.g.prog C.g.w) C.A (eval e C.env) Q E s

/-- a list of expressions, from left to right -/
structure Evs (C : CX) (S : AS) (es : List Expr) (Φ : List AV → Prop) : Prop where
  go : C.Ok → ∀ (pos : Pos) (X : List Addr) (s : Shared) (Q : List Value → Shared → Prop) (E : Value → Shared → Prop), PG C.g s.heap → XIn X s.heap → RelS C.env X s.heap S →
    (∀ avs vs h' tk, StIn s.heap h' → RelVs X h' avs vs → avs.length = es.length → Φ avs → Q vs { s with heap := h', toks := tk }) → wpAny (model C.g.prog C.g.w) C.A (spliced (backTo pos (starEach es C.env))) Q E s

/-- a test -/
structure Tst (C : CX) (S : AS) (e : Expr) (Φ : Bool → Prop) : Prop where
  go : C.Ok → ∀ (X : List Addr) (s : Shared) (Q : Bool → Shared → Prop) (E : Value → Shared → Prop), PG C.g s.heap → XIn X s.heap → RelS C.env X s.heap S →
    (∀ b h' tk, StIn s.heap h' → Φ b → Q b { s with heap := h', toks := tk }) → wpAny (model C.g.prog C.g.w) C.A (isTrue e C.env (eval e C.env)) Q E s

/-- a call of a value -/
structure CallsV (g : GX) (n : Nat) (f : Value) (args : List AV) (Φ : AV → Prop) : Prop where
  go : ∀ (A : Around) (X : List Addr) (s : Shared) (vs : List Value) (Q : Value → Shared → Prop) (E : Value → Shared → Prop), Room A n → PG g s.heap → XIn X s.heap → RelVs X s.heap args vs →
    (∀ av v h' tk, StIn s.heap h' → RelV X h' av v → Φ av → Q v { s with heap := h', toks := tk }) → wpAny (model g.prog g.w) A (call f vs) Q E s

theorem Ev.mono {C : CX} {S : AS} {e : Expr} {Φ Ψ : AV → Prop} (x : Ev C S e Φ) (h : ∀ a, Φ a → Ψ a) : Ev C S e Ψ :=
  ⟨fun ok X s Q E p xi r k => x.go ok X s Q E p xi r fun av v h' tk a b c => k av v h' tk a b (h _ c)⟩
theorem Evs.mono {C : CX} {S : AS} {e : List Expr} {Φ Ψ : List AV → Prop} (x : Evs C S e Φ) (h : ∀ a, Φ a → Ψ a) : Evs C S e Ψ :=
  ⟨fun ok pos X s Q E p xi r k => x.go ok pos X s Q E p xi r fun av v h' tk a b l c => k av v h' tk a b l (h _ c)⟩
theorem Tst.mono {C : CX} {S : AS} {e : Expr} {Φ Ψ : Bool → Prop} (x : Tst C S e Φ) (h : ∀ a, Φ a → Ψ a) : Tst C S e Ψ :=
  ⟨fun ok X s Q E p xi r k => x.go ok X s Q E p xi r fun b h' tk a c => k b h' tk a (h _ c)⟩
variable {C : CX} {S : AS} {Φ : AV → Prop}

/-- a binary operation on values -/
structure Bin (C : CX) (op : Operator) (a b : AV) (Φ : AV → Prop) : Prop where
  go : C.Ok → ∀ (X : List Addr) (s : Shared) (va vb : Value) (Q : Value → Shared → Prop) (E : Value → Shared → Prop), PG C.g s.heap → XIn X s.heap → RelV X s.heap a va → RelV X s.heap b vb →
    (∀ av v h' tk, StIn s.heap h' → RelV X h' av v → Φ av → Q v { s with heap := h', toks := tk }) → wpAny (model C.g.prog C.g.w) C.A (binaryOp op va vb) Q E s
structure IBin (C : CX) (op : Operator) (a b : AV) (Φ : AV → Prop) : Prop where
  go : C.Ok → ∀ (X : List Addr) (s : Shared) (va vb : Value) (Q : Value → Shared → Prop) (E : Value → Shared → Prop), PG C.g s.heap → XIn X s.heap → RelV X s.heap a va → RelV X s.heap b vb →
    (∀ av v h' tk, StIn s.heap h' → RelV X h' av v → Φ av → Q v { s with heap := h', toks := tk }) → wpAny (model C.g.prog C.g.w) C.A (inplaceOp op va vb) Q E s
structure Una (C : CX) (op : UnaryOp) (a : AV) (Φ : AV → Prop) : Prop where
  go : C.Ok → ∀ (X : List Addr) (s : Shared) (va : Value) (Q : Value → Shared → Prop) (E : Value → Shared → Prop), PG C.g s.heap → XIn X s.heap → RelV X s.heap a va →
    (∀ av v h' tk, StIn s.heap h' → RelV X h' av v → Φ av → Q v { s with heap := h', toks := tk }) → wpAny (model C.g.prog C.g.w) C.A (unaryOp op va) Q E s
structure Cmp (C : CX) (op : CmpOp) (a b : AV) (Φ : AV → Prop) : Prop where
  go : C.Ok → ∀ (X : List Addr) (s : Shared) (va vb : Value) (Q : Value → Shared → Prop) (E : Value → Shared → Prop), PG C.g s.heap → XIn X s.heap → RelV X s.heap a va → RelV X s.heap b vb →
    (∀ av v h' tk, StIn s.heap h' → RelV X h' av v → Φ av → Q v { s with heap := h', toks := tk }) → wpAny (model C.g.prog C.g.w) C.A (compareOp op va vb) Q E s
structure Trt (C : CX) (a : AV) (Φ : Bool → Prop) : Prop where
  go : C.Ok → ∀ (X : List Addr) (s : Shared) (va : Value) (Q : Bool → Shared → Prop) (E : Value → Shared → Prop), PG C.g s.heap → XIn X s.heap → RelV X s.heap a va →
    (∀ b h' tk, StIn s.heap h' → Φ b → Q b { s with heap := h', toks := tk }) → wpAny (model C.g.prog C.g.w) C.A (truthy va) Q E s
/-- a call in this frame -/
structure CallB (C : CX) (f : Value) (args : List AV) (Φ : AV → Prop) : Prop where
  go : C.Ok → ∀ (X : List Addr) (s : Shared) (vs : List Value) (Q : Value → Shared → Prop) (E : Value → Shared → Prop), PG C.g s.heap → XIn X s.heap → RelVs X s.heap args vs →
    (∀ av v h' tk, StIn s.heap h' → RelV X h' av v → Φ av → Q v { s with heap := h', toks := tk }) → wpAny (model C.g.prog C.g.w) C.A (call f vs) Q E s

theorem Ev_bin {l r : Expr} {op : Operator} {pos : Pos} (h : Ev C S l fun a => Ev C S r fun b => Bin C op a b Φ) : Ev C S (.BinOp l op r pos) Φ := by
  refine ⟨fun ok X s Q E p xi rs k => ?_⟩
  refine wpAny_BinOp (h.go ok X s _ E p xi rs fun a va h₁ t₁ st₁ ra hb => ?_)
  refine hb.go ok X _ _ E (p.st st₁) (xi.st st₁) (rs.st st₁) fun b vb h₂ t₂ st₂ rb hc => ?_
  exact hc.go ok X _ va vb Q E ((p.st st₁).st st₂) ((xi.st st₁).st st₂) (ra.st st₂) rb fun av v h' tk st r φ => k av v h' tk (st₁.trans (st₂.trans st)) r φ

theorem Ev_una {e : Expr} {op : UnaryOp} {pos : Pos} (h : Ev C S e fun a => Una C op a Φ) : Ev C S (.UnaryOp op e pos) Φ := by
  refine ⟨fun ok X s Q E p xi rs k => ?_⟩
  refine wpAny_UnaryOp (h.go ok X s _ E p xi rs fun a va h₁ t₁ st₁ ra hb => ?_)
  exact hb.go ok X _ va Q E (p.st st₁) (xi.st st₁) ra fun av v h' tk st r φ => k av v h' tk (st₁.trans st) r φ

theorem Ev_cmp {l r : Expr} {op : CmpOp} {pos : Pos} (h : Ev C S l fun a => Ev C S r fun b => Cmp C op a b Φ) (hm : behindInMarks op r = false := by with_unfolding_all rfl) : Ev C S (.Compare l [op] [r] pos) Φ := by
  refine ⟨fun ok X s Q E p xi rs k => ?_⟩
  refine wpAny_Compare1 (h.go ok X s _ E p xi rs fun a va h₁ t₁ st₁ ra hb => ?_) hm
  refine hb.go ok X _ _ E (p.st st₁) (xi.st st₁) (rs.st st₁) fun b vb h₂ t₂ st₂ rb hc => ?_
  exact hc.go ok X _ va vb Q E ((p.st st₁).st st₂) ((xi.st st₁).st st₂) (ra.st st₂) rb fun av v h' tk st r φ => k av v h' tk (st₁.trans (st₂.trans st)) r φ

theorem Tst_cmp {l r : Expr} {op : CmpOp} {pos : Pos} {Φ : Bool → Prop} (h : Ev C S l fun a => Ev C S r fun b => Cmp C op a b fun c => Trt C c Φ) (hm : behindInMarks op r = false := by with_unfolding_all rfl) : Tst C S (.Compare l [op] [r] pos) Φ := by
  refine ⟨fun ok X s Q E p xi rs k => ?_⟩
  refine wpAny_isTrue_Compare1 (h.go ok X s _ E p xi rs fun a va h₁ t₁ st₁ ra hb => ?_) hm
  refine hb.go ok X _ _ E (p.st st₁) (xi.st st₁) (rs.st st₁) fun b vb h₂ t₂ st₂ rb hc => ?_
  refine hc.go ok X _ va vb _ E ((p.st st₁).st st₂) ((xi.st st₁).st st₂) (ra.st st₂) rb fun c vc h₃ t₃ st₃ rc hd => ?_
  exact hd.go ok X _ vc Q E (((p.st st₁).st st₂).st st₃) (((xi.st st₁).st st₂).st st₃) rc fun b h' tk st φ => k b h' tk (st₁.trans (st₂.trans (st₃.trans st))) φ

/-- a < b < c -/
theorem Tst_cmp2 {l r r₂ : Expr} {op op₂ : CmpOp} {pos : Pos} {Φ : Bool → Prop}
    (h : Ev C S l fun a => Ev C S r fun b => Cmp C op a b fun c => Trt C c fun t => if t then Ev C S r₂ fun d => Cmp C op₂ b d fun c => Trt C c Φ else Φ false)
    (hm : lastMarks [op, op₂] [r, r₂] = false := by with_unfolding_all rfl) : Tst C S (.Compare l [op, op₂] [r, r₂] pos) Φ := by
  refine ⟨fun ok X s Q E p xi rs k => ?_⟩
  refine isTrue_chain (h.go ok X s _ E p xi rs fun a va h₁ t₁ st₁ ra hb => ?_) hm
  show wpAny _ _ (testChain pos va (op :: op₂ :: []) (eval r C.env :: eval r₂ C.env :: [])) Q E _
  refine test_link ?_
  refine hb.go ok X _ _ E (p.st st₁) (xi.st st₁) (rs.st st₁) fun b vb h₂ t₂ st₂ rb hc => ?_
  refine hc.go ok X _ va vb _ E ((p.st st₁).st st₂) ((xi.st st₁).st st₂) (ra.st st₂) rb fun c vc h₃ t₃ st₃ rc hd => ?_
  refine hd.go ok X _ vc _ E (((p.st st₁).st st₂).st st₃) (((xi.st st₁).st st₂).st st₃) rc fun t h₄ t₄ st₄ φ => ?_
  have st4 := st₁.trans (st₂.trans (st₃.trans st₄))
  cases t with
  | false => exact k false h₄ t₄ st4 φ
  | true =>
    refine test_last ?_
    simp only [if_true] at φ
    refine φ.go ok X _ _ E (p.st st4) (xi.st st4) (rs.st st4) fun d vd h₅ t₅ st₅ rd he => ?_
    refine he.go ok X _ vb vd _ E (p.st (st4.trans st₅)) (xi.st (st4.trans st₅)) (rb.st (st₃.trans (st₄.trans st₅))) rd fun c vc h₆ t₆ st₆ rc hf => ?_
    exact hf.go ok X _ vc Q E (p.st (st4.trans (st₅.trans st₆))) (xi.st (st4.trans (st₅.trans st₆))) rc fun b h' tk st φ => k b h' tk (st4.trans (st₅.trans (st₆.trans st))) φ

theorem Ev_const_int {i : Int} {k : Nat} {pos : Pos} (h : Φ (.int i)) : Ev C S (.Constant (.int i) k pos) Φ :=
  ⟨fun _ _ s _ _ _ _ _ k => wpAny_Constant_int (k (.int i) _ s.heap _ (StIn.refl _) ⟨_, rfl⟩ h)⟩
theorem Ev_const_bool {b : Bool} {k : Nat} {pos : Pos} (h : Φ (.bool b)) : Ev C S (.Constant (.bool b) k pos) Φ :=
  ⟨fun _ _ s _ _ _ _ _ k => wpAny_Constant_bool (k (.bool b) _ s.heap s.toks (StIn.refl _) rfl h)⟩
theorem Ev_const_none {k : Nat} {pos : Pos} (h : Φ .none) : Ev C S (.Constant .none k pos) Φ :=
  ⟨fun _ _ s _ _ _ _ _ k => wpAny_Constant_none (k .none _ s.heap s.toks (StIn.refl _) rfl h)⟩
theorem Ev_const_str {x : Str} {k : Nat} {pos : Pos} (h : Φ (.str x)) : Ev C S (.Constant (.str x) k pos) Φ :=
  ⟨fun _ _ s _ _ _ _ _ k => wpAny_Constant_str (k (.str x) _ s.heap _ (StIn.refl _) ⟨_, rfl⟩ h)⟩

theorem load_rd {M : Model} {A : Around} {env : Env} {x : Str} {v : Value} {s : Shared} {Q : Value → Shared → Prop} {E : Value → Shared → Prop} (hk : env.scope.kind = .function) (r : Rd env s.heap x v) (h : Q v s)
    (hn : (x == ("__classdict__" : Str)) = false) : wpAny M A (loadName env x) Q E s := by
  rcases r with ⟨hl, m, hns, hv⟩ | ⟨hl | hl, c, hc, hv⟩
  · exact wpAny_loadName_local hk hl hns hv h
  · exact wpAny_loadName_cell hk hl hc hv h
  · exact wpAny_loadName_free hk hl hc hv h hn

theorem Ev_name {x : Str} {pos : Pos} {av : AV} (hx : S.vs.lookup x = some av) (h : Φ av) (hd : (x == ("__debug__" : Str)) = false := by decide) (hn : (x == ("__classdict__" : Str)) = false := by decide) : Ev C S (.Name x pos) Φ := by
  refine ⟨fun ok X s Q E p xi rs k => ?_⟩
  obtain ⟨v, hr, hv⟩ := rs.1 x av hx
  exact wpAny_Name (load_rd ok.kind hr (k av v s.heap s.toks (StIn.refl _) hv h) hn) hd

theorem Ev_ifexp {t a b : Expr} {pos : Pos} (h : Tst C S t fun c => if c then Ev C S a Φ else Ev C S b Φ) : Ev C S (.IfExp t a b pos) Φ := by
  refine ⟨fun ok X s Q E p xi rs k => ?_⟩
  refine wpAny_IfExp (h.go ok X s _ E p xi rs fun c h₁ t₁ st₁ φ => ?_)
  cases c with
  | true => exact φ.go ok X _ Q E (p.st st₁) (xi.st st₁) (rs.st st₁) fun av v h' tk st r ψ => k av v h' tk (st₁.trans st) r ψ
  | false => exact φ.go ok X _ Q E (p.st st₁) (xi.st st₁) (rs.st st₁) fun av v h' tk st r ψ => k av v h' tk (st₁.trans st) r ψ

theorem Evs_nil {Φ : List AV → Prop} (h : Φ []) : Evs C S [] Φ := ⟨fun _ _ _ s _ _ _ _ _ k => wpAny_items_nil (k [] [] s.heap s.toks (StIn.refl _) rfl rfl h)⟩
theorem Evs_cons {e : Expr} {es : List Expr} {Φ : List AV → Prop} (h : Ev C S e fun a => Evs C S es fun l => Φ (a :: l))
    (he : starEach (e :: es) C.env = (false, eval e C.env) :: starEach es C.env := by rfl) : Evs C S (e :: es) Φ := by
  refine ⟨fun ok pos X s Q E p xi rs k => ?_⟩
  refine wpAny_items_cons (h.go ok X s _ E p xi rs fun a va h₁ t₁ st₁ ra hb => ?_) he
  exact hb.go ok pos X _ _ E (p.st st₁) (xi.st st₁) (rs.st st₁) fun avs vs h₂ t₂ st₂ rb hl φ => k (a :: avs) (va :: vs) h₂ t₂ (st₁.trans st₂) ⟨va, vs, rfl, ra.st st₂, rb⟩ (by rw [List.length_cons, List.length_cons, hl]) φ

-- tests
theorem Tst_not {e : Expr} {pos : Pos} {Φ : Bool → Prop} (h : Tst C S e fun b => Φ (!b)) : Tst C S (.UnaryOp .Not e pos) Φ := by
  refine ⟨fun ok X s Q E p xi rs k => ?_⟩
  exact wpAny_isTrue_Not (h.go ok X s _ E p xi rs fun b h₁ t₁ st₁ φ => k _ h₁ t₁ st₁ φ)

structure Tsts (C : CX) (S : AS) (op : BoolOp) (es : List Expr) (Φ : Bool → Prop) : Prop where
  go : C.Ok → ∀ (X : List Addr) (s : Shared) (Q : Bool → Shared → Prop) (E : Value → Shared → Prop), PG C.g s.heap → XIn X s.heap → RelS C.env X s.heap S →
    (∀ b h' tk, StIn s.heap h' → Φ b → Q b { s with heap := h', toks := tk }) → wpAny (model C.g.prog C.g.w) C.A (allTrue op es C.env) Q E s
theorem Tst_boolop {op : BoolOp} {es : List Expr} {pos : Pos} {Φ : Bool → Prop} (h : Tsts C S op es Φ) : Tst C S (.BoolOp op es pos) Φ :=
  ⟨fun ok X s Q E p xi rs k => wpAny_isTrue_BoolOp (h.go ok X s Q E p xi rs k)⟩
theorem Tsts_and_nil {Φ : Bool → Prop} (h : Φ true) : Tsts C S .And [] Φ := ⟨fun _ _ s _ _ _ _ _ k => wpAny_allTrue_And_nil (k true s.heap s.toks (StIn.refl _) h)⟩
theorem Tsts_or_nil {Φ : Bool → Prop} (h : Φ false) : Tsts C S .Or [] Φ := ⟨fun _ _ s _ _ _ _ _ k => wpAny_allTrue_Or_nil (k false s.heap s.toks (StIn.refl _) h)⟩
theorem Tsts_and_cons {e : Expr} {es : List Expr} {Φ : Bool → Prop} (h : Tst C S e fun b => if b then Tsts C S .And es Φ else Φ false) : Tsts C S .And (e :: es) Φ := by
  refine ⟨fun ok X s Q E p xi rs k => ?_⟩
  refine wpAny_allTrue_And_cons (h.go ok X s _ E p xi rs fun b h₁ t₁ st₁ φ => ?_)
  cases b with
  | false => exact k false h₁ t₁ st₁ φ
  | true => exact φ.go ok X _ Q E (p.st st₁) (xi.st st₁) (rs.st st₁) fun b h' tk st ψ => k b h' tk (st₁.trans st) ψ
theorem Tsts_or_cons {e : Expr} {es : List Expr} {Φ : Bool → Prop} (h : Tst C S e fun b => if b then Φ true else Tsts C S .Or es Φ) : Tsts C S .Or (e :: es) Φ := by
  refine ⟨fun ok X s Q E p xi rs k => ?_⟩
  refine wpAny_allTrue_Or_cons (h.go ok X s _ E p xi rs fun b h₁ t₁ st₁ φ => ?_)
  cases b with
  | true => exact k true h₁ t₁ st₁ φ
  | false => exact φ.go ok X _ Q E (p.st st₁) (xi.st st₁) (rs.st st₁) fun b h' tk st ψ => k b h' tk (st₁.trans st) ψ
/-- any other expression as a test -/
theorem Tst_val {e : Expr} {Φ : Bool → Prop} (h : Ev C S e fun a => Trt C a Φ)
    (he : isTrue e C.env (eval e C.env) = (do let v ← eval e C.env; standAt e.pos; holding [v] (truthy v)) := by rfl) : Tst C S e Φ := by
  refine ⟨fun ok X s Q E p xi rs k => ?_⟩
  refine wpAny_isTrue_value (h.go ok X s _ E p xi rs fun a va h₁ t₁ st₁ ra hb => ?_) he
  exact hb.go ok X _ va Q E (p.st st₁) (xi.st st₁) ra fun b h' tk st φ => k b h' tk (st₁.trans st) φ

-- and, or as values, of two
theorem Ev_and2 {x y : Expr} {pos : Pos} (h : Ev C S x fun a => Trt C a fun t => if t then Ev C S y Φ else Φ a) : Ev C S (.BoolOp .And [x, y] pos) Φ := by
  refine ⟨fun ok X s Q E p xi rs k => ?_⟩
  refine wpAny_And2 (h.go ok X s _ E p xi rs fun a va h₁ t₁ st₁ ra hb => ?_)
  refine hb.go ok X _ va _ E (p.st st₁) (xi.st st₁) ra fun t h₂ t₂ st₂ φ => ?_
  cases t with
  | true => exact φ.go ok X _ Q E (p.st (st₁.trans st₂)) (xi.st (st₁.trans st₂)) (rs.st (st₁.trans st₂)) fun av v h' tk st r ψ => k av v h' tk (st₁.trans (st₂.trans st)) r ψ
  | false => exact k a va h₂ t₂ (st₁.trans st₂) (ra.st st₂) φ
theorem Ev_or2 {x y : Expr} {pos : Pos} (h : Ev C S x fun a => Trt C a fun t => if t then Φ a else Ev C S y Φ) : Ev C S (.BoolOp .Or [x, y] pos) Φ := by
  refine ⟨fun ok X s Q E p xi rs k => ?_⟩
  refine wpAny_Or2 (h.go ok X s _ E p xi rs fun a va h₁ t₁ st₁ ra hb => ?_)
  refine hb.go ok X _ va _ E (p.st st₁) (xi.st st₁) ra fun t h₂ t₂ st₂ φ => ?_
  cases t with
  | false => exact φ.go ok X _ Q E (p.st (st₁.trans st₂)) (xi.st (st₁.trans st₂)) (rs.st (st₁.trans st₂)) fun av v h' tk st r ψ => k av v h' tk (st₁.trans (st₂.trans st)) r ψ
  | true => exact k a va h₂ t₂ (st₁.trans st₂) (ra.st st₂) φ

theorem Trt_bool {b : Bool} {Φ : Bool → Prop} (h : Φ b) : Trt C (.bool b) Φ := by
  refine ⟨fun _ _ s va _ _ _ _ r k => ?_⟩
  obtain rfl : va = .bool b := r
  exact wpAny_truthy_bool (k b s.heap s.toks (StIn.refl _) h)
theorem Trt_int {i : Int} {Φ : Bool → Prop} (h : Φ (i != 0)) : Trt C (.int i) Φ := by
  refine ⟨fun _ _ s va _ _ _ _ r k => ?_⟩
  obtain ⟨t, rfl⟩ : ∃ t, va = .int i t := r
  exact PyProof.Rows.truthy_int (k _ s.heap s.toks (StIn.refl _) h)

-- ints
section
variable {a b : Int}
theorem Bin_add (h : Φ (.int (a + b))) : Bin C .Add (.int a) (.int b) Φ := by
  refine ⟨fun _ _ s va vb _ _ _ _ ra rb k => ?_⟩
  obtain ⟨t, rfl⟩ : ∃ t, va = .int a t := ra
  obtain ⟨u, rfl⟩ : ∃ t, vb = .int b t := rb
  exact PyProof.Rows.add_int (k (.int _) _ s.heap _ (StIn.refl _) ⟨_, rfl⟩ h)
theorem Bin_sub (h : Φ (.int (a - b))) : Bin C .Sub (.int a) (.int b) Φ := by
  refine ⟨fun _ _ s va vb _ _ _ _ ra rb k => ?_⟩
  obtain ⟨t, rfl⟩ : ∃ t, va = .int a t := ra
  obtain ⟨u, rfl⟩ : ∃ t, vb = .int b t := rb
  exact PyProof.Rows.sub_int' (k (.int _) _ s.heap _ (StIn.refl _) ⟨_, rfl⟩ h)
theorem Bin_mul (hm : IntMulOk a b) (h : Φ (.int (a * b))) : Bin C .Mult (.int a) (.int b) Φ := by
  refine ⟨fun _ _ s va vb _ _ _ _ ra rb k => ?_⟩
  obtain ⟨t, rfl⟩ : ∃ t, va = .int a t := ra
  obtain ⟨u, rfl⟩ : ∃ t, vb = .int b t := rb
  exact PyProof.Rows.mul_int (k (.int _) _ s.heap _ (StIn.refl _) ⟨_, rfl⟩ h) hm
theorem Bin_fdiv (hb : b ≠ 0) (h : Φ (.int (a.fdiv b))) : Bin C .FloorDiv (.int a) (.int b) Φ := by
  refine ⟨fun ok _ s va vb _ _ p _ ra rb k => ?_⟩
  obtain ⟨t, rfl⟩ : ∃ t, va = .int a t := ra
  obtain ⟨u, rfl⟩ : ∃ t, vb = .int b t := rb
  exact PyProof.Rows.floordiv_int hb (k (.int _) _ s.heap _ (StIn.refl _) ⟨_, rfl⟩ h) (.inr (ok.pylong p))
theorem Bin_mod (hb : b ≠ 0) (h : Φ (.int (a.fmod b))) : Bin C .Mod (.int a) (.int b) Φ := by
  refine ⟨fun ok _ s va vb _ _ p _ ra rb k => ?_⟩
  obtain ⟨t, rfl⟩ : ∃ t, va = .int a t := ra
  obtain ⟨u, rfl⟩ : ∃ t, vb = .int b t := rb
  exact PyProof.Rows.mod_int' hb (k (.int _) _ s.heap _ (StIn.refl _) ⟨_, rfl⟩ h)
theorem Bin_pow (hn : 0 ≤ b) (hsz : (Builtin.Int.intBits a : Int) * b ≤ 2 ^ 27) (h : Φ (.int (a ^ b.toNat))) : Bin C .Pow (.int a) (.int b) Φ := by
  refine ⟨fun ok _ s va vb _ _ p _ ra rb k => ?_⟩
  obtain ⟨t, rfl⟩ : ∃ t, va = .int a t := ra
  obtain ⟨u, rfl⟩ : ∃ t, vb = .int b t := rb
  exact PyProof.Rows.pow_int hn hsz (k (.int _) _ s.heap _ (StIn.refl _) ⟨_, rfl⟩ h)
theorem Bin_shl (hn : 0 ≤ b) (hsz : (Builtin.Int.intBits a : Int) + b ≤ 2 ^ 27) (h : Φ (.int (a * 2 ^ b.toNat))) : Bin C .LShift (.int a) (.int b) Φ := by
  refine ⟨fun ok _ s va vb _ _ p _ ra rb k => ?_⟩
  obtain ⟨t, rfl⟩ : ∃ t, va = .int a t := ra
  obtain ⟨u, rfl⟩ : ∃ t, vb = .int b t := rb
  exact PyProof.Rows.lshift_int hn hsz (k (.int _) _ s.heap _ (StIn.refl _) ⟨_, rfl⟩ h)
theorem Bin_shr (hn : 0 ≤ b) (h : Φ (.int (a.fdiv (2 ^ b.toNat)))) : Bin C .RShift (.int a) (.int b) Φ := by
  refine ⟨fun ok _ s va vb _ _ p _ ra rb k => ?_⟩
  obtain ⟨t, rfl⟩ : ∃ t, va = .int a t := ra
  obtain ⟨u, rfl⟩ : ∃ t, vb = .int b t := rb
  exact PyProof.Rows.rshift_int hn (k (.int _) _ s.heap _ (StIn.refl _) ⟨_, rfl⟩ h)
theorem Bin_and (h : Φ (.int (Builtin.bitAnd a b))) : Bin C .BitAnd (.int a) (.int b) Φ := by
  refine ⟨fun ok _ s va vb _ _ p _ ra rb k => ?_⟩
  obtain ⟨t, rfl⟩ : ∃ t, va = .int a t := ra
  obtain ⟨u, rfl⟩ : ∃ t, vb = .int b t := rb
  exact PyProof.Rows.and_int (k (.int _) _ s.heap _ (StIn.refl _) ⟨_, rfl⟩ h)
theorem Bin_add_bool {c : Bool} (h : Φ (.int (a + if c = true then (1 : Int) else 0))) : Bin C .Add (.int a) (.bool c) Φ := by
  refine ⟨fun ok _ s va vb _ _ p _ ra rb k => ?_⟩
  obtain ⟨t, rfl⟩ : ∃ t, va = .int a t := ra
  obtain rfl : vb = .bool c := rb
  exact PySem.add_int_bool (k (.int _) _ s.heap _ (StIn.refl _) ⟨_, rfl⟩ h)
theorem Una_neg (h : Φ (.int (-a))) : Una C .USub (.int a) Φ := by
  refine ⟨fun _ _ s va _ _ _ _ ra k => ?_⟩
  obtain ⟨t, rfl⟩ : ∃ t, va = .int a t := ra
  exact PyProof.Rows.neg_int (k (.int _) _ s.heap _ (StIn.refl _) ⟨_, rfl⟩ h)
theorem Una_not {x : AV} (h : Trt C x fun b => Φ (.bool !b)) : Una C .Not x Φ := ⟨fun ok X s va Q E p xi ra k =>
  PySem.not_value (h.go ok X s va _ E p xi ra fun b h' tk st φ => k (.bool _) _ h' tk st rfl φ)⟩
theorem Cmp_eq (h : Φ (.bool (a == b))) : Cmp C .Eq (.int a) (.int b) Φ := by
  refine ⟨fun ok _ s va vb _ _ p _ ra rb k => ?_⟩
  obtain ⟨t, rfl⟩ : ∃ t, va = .int a t := ra
  obtain ⟨u, rfl⟩ : ∃ t, vb = .int b t := rb
  exact PyProof.Rows.eq_int (k (.bool _) _ s.heap s.toks (StIn.refl _) rfl h)
theorem Cmp_ne (h : Φ (.bool (a != b))) : Cmp C .NotEq (.int a) (.int b) Φ := by
  refine ⟨fun ok _ s va vb _ _ p _ ra rb k => ?_⟩
  obtain ⟨t, rfl⟩ : ∃ t, va = .int a t := ra
  obtain ⟨u, rfl⟩ : ∃ t, vb = .int b t := rb
  exact PyProof.Rows.ne_int (k (.bool _) _ s.heap s.toks (StIn.refl _) rfl h)
theorem Cmp_lt (h : Φ (.bool (decide (a < b)))) : Cmp C .Lt (.int a) (.int b) Φ := by
  refine ⟨fun ok _ s va vb _ _ p _ ra rb k => ?_⟩
  obtain ⟨t, rfl⟩ : ∃ t, va = .int a t := ra
  obtain ⟨u, rfl⟩ : ∃ t, vb = .int b t := rb
  exact PyProof.Rows.lt_int (k (.bool _) _ s.heap s.toks (StIn.refl _) rfl h)
theorem Cmp_le (h : Φ (.bool (decide (a ≤ b)))) : Cmp C .LtE (.int a) (.int b) Φ := by
  refine ⟨fun ok _ s va vb _ _ p _ ra rb k => ?_⟩
  obtain ⟨t, rfl⟩ : ∃ t, va = .int a t := ra
  obtain ⟨u, rfl⟩ : ∃ t, vb = .int b t := rb
  exact PyProof.Rows.le_int (k (.bool _) _ s.heap s.toks (StIn.refl _) rfl h)
theorem Cmp_gt (h : Φ (.bool (decide (b < a)))) : Cmp C .Gt (.int a) (.int b) Φ := by
  refine ⟨fun ok _ s va vb _ _ p _ ra rb k => ?_⟩
  obtain ⟨t, rfl⟩ : ∃ t, va = .int a t := ra
  obtain ⟨u, rfl⟩ : ∃ t, vb = .int b t := rb
  exact PyProof.Rows.gt_int (k (.bool _) _ s.heap s.toks (StIn.refl _) rfl h)
theorem Cmp_ge (h : Φ (.bool (decide (b ≤ a)))) : Cmp C .GtE (.int a) (.int b) Φ := by
  refine ⟨fun ok _ s va vb _ _ p _ ra rb k => ?_⟩
  obtain ⟨t, rfl⟩ : ∃ t, va = .int a t := ra
  obtain ⟨u, rfl⟩ : ∃ t, vb = .int b t := rb
  exact PyProof.Rows.ge_int (k (.bool _) _ s.heap s.toks (StIn.refl _) rfl h)
end

theorem IBin_add {a b : Int} (h : Φ (.int (a + b))) : IBin C .Add (.int a) (.int b) Φ := by
  refine ⟨fun _ _ s va vb _ _ _ _ ra rb k => ?_⟩
  obtain ⟨t, rfl⟩ : ∃ t, va = .int a t := ra
  obtain ⟨u, rfl⟩ : ∃ t, vb = .int b t := rb
  exact PyProof.Rows.iadd_int (k (.int _) _ s.heap _ (StIn.refl _) ⟨_, rfl⟩ h)
theorem IBin_sub {a b : Int} (h : Φ (.int (a - b))) : IBin C .Sub (.int a) (.int b) Φ := by
  refine ⟨fun _ _ s va vb _ _ _ _ ra rb k => ?_⟩
  obtain ⟨t, rfl⟩ : ∃ t, va = .int a t := ra
  obtain ⟨u, rfl⟩ : ∃ t, vb = .int b t := rb
  exact PyProof.Rows.isub_int (k (.int _) _ s.heap _ (StIn.refl _) ⟨_, rfl⟩ h)
theorem IBin_mul {a b : Int} (hm : IntMulOk a b) (h : Φ (.int (a * b))) : IBin C .Mult (.int a) (.int b) Φ := by
  refine ⟨fun _ _ s va vb _ _ _ _ ra rb k => ?_⟩
  obtain ⟨t, rfl⟩ : ∃ t, va = .int a t := ra
  obtain ⟨u, rfl⟩ : ∃ t, vb = .int b t := rb
  exact PySem.AutoIntOps.imul_0 (k (.int _) _ s.heap _ (StIn.refl _) ⟨_, rfl⟩ h) hm

-- displays
theorem newTuple_rel {M : Model} {A : Around} {X : List Addr} {s : Shared} {avs : List AV} {vs : List Value} {Q : Value → Shared → Prop} {E : Value → Shared → Prop} (r : RelVs X s.heap avs vs) (hsz : avs.length ≤ sizeLine)
    (k : ∀ v h' tk, StIn s.heap h' → RelV X h' (.tup avs) v → Q v { s with heap := h', toks := tk }) : wpAny M A (newTuple vs) Q E s := by
  refine wpAny_newTuple (k _ _ s.toks (StIn.push _ _) ⟨_, vs, rfl, ⟨_, Heap.get?_push_size _ rfl, rfl, 0, rfl⟩, r.st (StIn.push _ _)⟩) ?_
  rw [r.length]; exact hsz
theorem newList_rel {M : Model} {A : Around} {X : List Addr} {s : Shared} {avs : List AV} {vs : List Value} {Q : Value → Shared → Prop} {E : Value → Shared → Prop} (xi : XIn X s.heap) (r : RelVs X s.heap avs vs) (hsz : avs.length ≤ sizeLine)
    (k : ∀ v h' tk, StIn s.heap h' → RelV X h' (.lst avs) v → Q v { s with heap := h', toks := tk }) : wpAny M A (newList vs) Q E s := by
  refine wpAny_newObj_type (k _ _ s.toks (StIn.push _ _) ⟨_, vs, rfl, xi.fresh, ⟨_, Heap.get?_push_size _ rfl, rfl, 0, rfl⟩, r.st (StIn.push _ _)⟩) ?_
  show vs.toArray.size ≤ sizeLine
  rw [List.size_toArray, r.length]; exact hsz

theorem Ev_tuple {es : List Expr} {k : Nat} {pos : Pos} (h : Evs C S es fun l => Φ (.tup l)) (hsz : es.length ≤ 1000 := by decide) : Ev C S (.Tuple es k pos) Φ := by
  refine ⟨fun ok X s Q E p xi rs k => ?_⟩
  refine PyProof.Rows.Tuple_ (h.go ok pos X s _ E p xi rs fun avs vs h₁ t₁ st₁ r hl φ => ?_)
  exact newTuple_rel r (by rw [hl, sizeLine_eq]; omega) fun v h' tk st rr => k _ v h' tk (st₁.trans st) rr φ
theorem Ev_list {es : List Expr} {pos : Pos} (h : Evs C S es fun l => Φ (.lst l)) (hsz : es.length ≤ 1000 := by decide) : Ev C S (.List es pos) Φ := by
  refine ⟨fun ok X s Q E p xi rs k => ?_⟩
  refine PyProof.Rows.List_ (h.go ok pos X s _ E p xi rs fun avs vs h₁ t₁ st₁ r hl φ => ?_)
  exact newList_rel (xi.st st₁) r (by rw [hl, sizeLine_eq]; omega) fun v h' tk st rr => k _ v h' tk (st₁.trans st) rr φ
variable {C : CX} {S : AS} {Φ : AV → Prop}

/-- a built-in name, not covered -/
theorem Ev_boot {x : Str} {pos : Pos} {fv : Value} {av : AV} (hm : C.g.mg x = none) (hb : bootBuiltins x = some fv) (hx : C.env.kindOf x = some .globalImplicit) (hr : ∀ X h, RelV X h av fv) (h : Φ av)
    (hn : x ≠ "__name__" := by decide) (hd : (x == ("__debug__" : Str)) = false := by decide) : Ev C S (.Name x pos) Φ := by
  refine ⟨fun ok X s Q E p xi rs k => ?_⟩
  refine Calls.Name_function_global ok.kind hx (Calls.loadGlobal_builtin (by rw [ok.glob]; exact p.top.g) hm (by rw [ok.blt]; exact p.top.b) ((p.top.builtins x hn).trans hb) ?_) hd
  exact k av fv s.heap s.toks (StIn.refl _) (hr X _) h

theorem spliced_any {args : List Expr} {pos : Pos} {env : Env} (h : (starEach args env).any (·.1) = false) : (backTo pos (starEach args env)).any (·.1) = false := by
  rw [← h]; unfold backTo
  induction starEach args env with
  | nil => rfl
  | cons x r ih => simp_all

/-- a call of a built-in function -/
theorem Ev_callB {f : Str} {fp pos : Pos} {args : List Expr} {id : String} (hm : C.g.mg f = none) (hb : bootBuiltins f = some (.builtin id)) (hx : C.env.kindOf f = some .globalImplicit) (h : Evs C S args fun avs => CallB C (.builtin id) avs Φ)
    (ha : ∃ x r, starEach args C.env = (false, x) :: r ∧ (starEach args C.env).any (·.1) = false := by exact ⟨_, _, rfl, rfl⟩)
    (hn : f ≠ "__name__" := by decide) (hd : (f == ("__debug__" : Str)) = false := by decide) : Ev C S (.Call (.Name f fp) args [] pos) Φ := by
  refine ⟨fun ok X s Q E p xi rs k => ?_⟩
  obtain ⟨x, r, he, hany⟩ := ha
  refine wpAny_Call_Name_kw ?_
  refine Calls.Name_function_global ok.kind hx (Calls.loadGlobal_builtin (by rw [ok.glob]; exact p.top.g) hm (by rw [ok.blt]; exact p.top.b) ((p.top.builtins f hn).trans hb) ?_) hd
  refine Calls.callWith_builtin (spliced_any hany) ?_
  have hb' : ∃ x' r', backTo pos (starEach args C.env) = (false, x') :: r' := by rw [he]; exact ⟨_, _, rfl⟩
  obtain ⟨x', r', hb'⟩ := hb'
  rw [hb']
  refine Calls.evalArgs_plain ?_
  rw [← hb']
  refine h.go ok pos X s _ E p xi rs fun avs vs h₁ t₁ st₁ ra _ hc => ?_
  exact hc.go ok X _ vs Q E (p.st st₁) (xi.st st₁) ra fun av v h' tk st r φ => k av v h' tk (st₁.trans st) r φ
/-- a call of a built-in type -/
theorem Ev_callT {f : Str} {fp pos : Pos} {args : List Expr} {T : String} (hm : C.g.mg f = none) (hb : bootBuiltins f = some (.type T)) (hx : C.env.kindOf f = some .globalImplicit) (h : Evs C S args fun avs => CallB C (.type T) avs Φ)
    (ha : ∃ x r, starEach args C.env = (false, x) :: r ∧ (starEach args C.env).any (·.1) = false := by exact ⟨_, _, rfl, rfl⟩)
    (hn : f ≠ "__name__" := by decide) (hd : (f == ("__debug__" : Str)) = false := by decide) : Ev C S (.Call (.Name f fp) args [] pos) Φ := by
  refine ⟨fun ok X s Q E p xi rs k => ?_⟩
  obtain ⟨x, r, he, hany⟩ := ha
  refine wpAny_Call_Name_kw ?_
  refine Calls.Name_function_global ok.kind hx (Calls.loadGlobal_builtin (by rw [ok.glob]; exact p.top.g) hm (by rw [ok.blt]; exact p.top.b) ((p.top.builtins f hn).trans hb) ?_) hd
  refine PyProof.Rows.callWith_type (spliced_any hany) ?_
  have hb' : ∃ x' r', backTo pos (starEach args C.env) = (false, x') :: r' := by rw [he]; exact ⟨_, _, rfl⟩
  obtain ⟨x', r', hb'⟩ := hb'
  rw [hb']
  refine Calls.evalArgs_plain ?_
  rw [← hb']
  refine h.go ok pos X s _ E p xi rs fun avs vs h₁ t₁ st₁ ra _ hc => ?_
  exact hc.go ok X _ vs Q E (p.st st₁) (xi.st st₁) ra fun av v h' tk st r φ => k av v h' tk (st₁.trans st) r φ

/-- a def of the text: where it stands -/
def FnIs (g : GX) (f : Str) (a : Addr) : Prop := g.mg f = some (.ref a) ∧ ∀ h, PG g h → ∃ o fd, h.get? a = some o ∧ o.data = .func fd
/-- what a call of it gives -/
def Calls (g : GX) (n : Nat) (f : Str) (args : List AV) (Φ : AV → Prop) : Prop := ∃ a, FnIs g f a ∧ CallsV g n (.ref a) args Φ

theorem Calls.mono {g : GX} {n : Nat} {f : Str} {args : List AV} {Φ Ψ : AV → Prop} (x : Calls g n f args Φ) (h : ∀ a, Φ a → Ψ a) : Calls g n f args Ψ :=
  let ⟨a, hf, hc⟩ := x; ⟨a, hf, ⟨fun A X s vs Q E ro p xi r k => hc.go A X s vs Q E ro p xi r fun av v h' tk st rv φ => k av v h' tk st rv (h _ φ)⟩⟩

theorem Ev_call {f : Str} {fp pos : Pos} {args : List Expr} {n : Nat} (hx : C.env.kindOf f = some .globalImplicit) (h : Evs C S args fun avs => Calls C.g n f avs Φ) (hn : n ≤ C.n)
    (ha : ∃ x r, starEach args C.env = (false, x) :: r ∧ (starEach args C.env).any (·.1) = false := by exact ⟨_, _, rfl, rfl⟩)
    (hg : ∃ a, FnIs C.g f a)
    (hd : (f == ("__debug__" : Str)) = false := by decide) : Ev C S (.Call (.Name f fp) args [] pos) Φ := by
  refine ⟨fun ok X s Q E p xi rs k => ?_⟩
  obtain ⟨x, r, he, hany⟩ := ha
  obtain ⟨a, hfa, hfo⟩ := hg
  refine wpAny_Call_Name_kw ?_
  refine Calls.Name_function_global ok.kind hx (Calls.loadGlobal_global (by rw [ok.glob]; exact p.top.g) hfa ?_) hd
  have hb' : ∃ x' r', backTo pos (starEach args C.env) = (false, x') :: r' := by rw [he]; exact ⟨_, _, rfl⟩
  obtain ⟨x', r', hb'⟩ := hb'
  obtain ⟨o, fd, ho, hd⟩ := hfo _ p
  refine Calls.callWith_function (o := o) (fd := fd) ?_
  rw [hb']
  refine Calls.evalArgs_plain ?_
  rw [← hb']
  refine h.go ok pos X s _ E p xi rs fun avs vs h₁ t₁ st₁ ra _ hc => ?_
  obtain ⟨a', ⟨hfa', _⟩, hc⟩ := hc
  rw [hfa] at hfa'
  cases hfa'
  exact ⟨⟨st₁ _ _ ho, hd⟩, hc.go C.A X _ vs Q E (ok.room.le hn) (p.st st₁) (xi.st st₁) ra fun av v h' tk st r φ => k av v h' tk (st₁.trans st) r φ⟩

-- built-ins
theorem CallB_abs {a : Int} (h : Φ (.int (if a < 0 then -a else a))) : CallB C (.builtin "abs") [.int a] Φ := by
  refine ⟨?_⟩
  rintro _ X s vs Q E _ _ ⟨v, r, rfl, ⟨t, rfl⟩, rfl⟩ k
  exact PyProof.Rows.call_abs_int fun u tk => k (.int _) _ s.heap tk (StIn.refl _) ⟨_, rfl⟩ h
theorem CallB_divmod {a b : Int} (hb : b ≠ 0) (h : Φ (.tup [.int (a.fdiv b), .int (a.fmod b)])) : CallB C (.builtin "divmod") [.int a, .int b] Φ := by
  refine ⟨?_⟩
  rintro ok X s vs Q E p xi ⟨v, r, rfl, ⟨t, rfl⟩, ⟨v', r', rfl, ⟨t', rfl⟩, rfl⟩⟩ k
  exact PyProof.Rows.divmod_int hb (k (.tup [.int (a.fdiv b), .int (a.fmod b)]) _ _ _ (StIn.push _ _) ⟨_, [_, _], rfl, ⟨_, Heap.get?_push_size _ rfl, rfl, 0, rfl⟩, ⟨_, _, rfl, ⟨_, rfl⟩, _, _, rfl, ⟨_, rfl⟩, rfl⟩⟩ h) (.inr (ok.pylong p))
theorem CallB_len {l : List AV} (hl : l.length < 2 ^ 60) (h : Φ (.int l.length)) : CallB C (.builtin "len") [.lst l] Φ := by
  refine ⟨?_⟩
  rintro ok X s vs Q E p xi ⟨v, r, rfl, ⟨a, vs', rfl, hx, hl', hr⟩, rfl⟩ k
  have e : vs'.toArray.size = l.length := by rw [List.size_toArray, hr.length]
  refine Calls.call_len_list hl' (by rw [e]; omega) (k (.int _) _ s.heap _ (StIn.refl _) ⟨_, by rw [e]⟩ h)
theorem CallB_lenT {l : List AV} (hl : l.length < 2 ^ 60) (h : Φ (.int l.length)) : CallB C (.builtin "len") [.tup l] Φ := by
  refine ⟨?_⟩
  rintro ok X s vs Q E p xi ⟨v, r, rfl, ⟨a, vs', rfl, hl', hr⟩, rfl⟩ k
  have e : vs'.toArray.size = l.length := by rw [List.size_toArray, hr.length]
  refine PyProof.Rows.len_tuple hl' (by rw [e]; omega) (k (.int _) _ s.heap _ (StIn.refl _) ⟨_, by rw [e]⟩ h)
theorem CallB_isint {a : Int} (h : Φ (.bool true)) : CallB C (.builtin "isinstance") [.int a, .ty "int"] Φ := by
  refine ⟨?_⟩
  rintro _ X s vs Q E _ _ ⟨v, r, rfl, ⟨t, rfl⟩, ⟨v', r', rfl, e, rfl⟩⟩ k
  obtain rfl : v' = .type "int" := e
  exact IsiPair.int_int (k (.bool _) _ s.heap s.toks (StIn.refl _) rfl h)
theorem CallB_isbool {a : Int} (h : Φ (.bool false)) : CallB C (.builtin "isinstance") [.int a, .ty "bool"] Φ := by
  refine ⟨?_⟩
  rintro _ X s vs Q E _ _ ⟨v, r, rfl, ⟨t, rfl⟩, ⟨v', r', rfl, e, rfl⟩⟩ k
  obtain rfl : v' = .type "bool" := e
  exact IsiPair.int_bool (k (.bool _) _ s.heap _ (StIn.refl _) rfl h)
theorem CallB_range1 {n : Int} (h : Φ (.rng 0 n 1)) : CallB C (.type "range") [.int n] Φ := by
  refine ⟨?_⟩
  rintro _ X s vs Q E _ _ ⟨v, r, rfl, ⟨t, rfl⟩, rfl⟩ k
  exact call_range_1 (k (.rng _ _ _) _ _ _ (StIn.push _ _) ⟨_, _, _, _, rfl, Heap.get?_push_size _ rfl⟩ h)
theorem CallB_range2 {a b : Int} (h : Φ (.rng a b 1)) : CallB C (.type "range") [.int a, .int b] Φ := by
  refine ⟨?_⟩
  rintro _ X s vs Q E _ _ ⟨v, r, rfl, ⟨t, rfl⟩, ⟨v', r', rfl, ⟨t', rfl⟩, rfl⟩⟩ k
  exact call_range_2 (k (.rng _ _ _) _ _ _ (StIn.push _ _) ⟨_, _, _, _, rfl, Heap.get?_push_size _ rfl⟩ h)
theorem CallB_range3 {a b c : Int} (hc : c ≠ 0) (h : Φ (.rng a b c)) : CallB C (.type "range") [.int a, .int b, .int c] Φ := by
  refine ⟨?_⟩
  rintro ok X s vs Q E p _ ⟨v, r, rfl, ⟨t, rfl⟩, ⟨v', r', rfl, ⟨t', rfl⟩, ⟨v'', r'', rfl, ⟨t'', rfl⟩, rfl⟩⟩⟩ k
  exact call_range_3 hc (k (.rng _ _ _) _ _ _ (StIn.push _ _) ⟨_, _, _, _, rfl, Heap.get?_push_size _ rfl⟩ h) (.inr (ok.pylong p))
theorem CallB_max {a b : Int} (h : Φ (.int (max a b))) : CallB C (.builtin "max") [.int a, .int b] Φ := by
  refine ⟨?_⟩
  rintro ok X s vs Q E _ _ ⟨v, r, rfl, ⟨t, rfl⟩, ⟨v', r', rfl, ⟨t', rfl⟩, rfl⟩⟩ k
  refine max_two_ints ok.room.hh fun h' tk st => k (.int _) _ h' tk st ?_ h
  by_cases hab : b > a
  · rw [if_pos hab]; exact ⟨_, by rw [Int.max_eq_right (by omega)]⟩
  · rw [if_neg hab]; exact ⟨_, by rw [Int.max_eq_left (by omega)]⟩
theorem CallB_min {a b : Int} (h : Φ (.int (min a b))) : CallB C (.builtin "min") [.int a, .int b] Φ := by
  refine ⟨?_⟩
  rintro ok X s vs Q E _ _ ⟨v, r, rfl, ⟨t, rfl⟩, ⟨v', r', rfl, ⟨t', rfl⟩, rfl⟩⟩ k
  refine min_two_ints ok.room.hh fun h' tk st => k (.int _) _ h' tk st ?_ h
  by_cases hab : b < a
  · rw [if_pos hab]; exact ⟨_, by rw [Int.min_eq_right (by omega)]⟩
  · rw [if_neg hab]; exact ⟨_, by rw [Int.min_eq_left (by omega)]⟩
theorem CallB_int {a : Int} (h : Φ (.int a)) : CallB C (.type "int") [.int a] Φ := by
  refine ⟨?_⟩
  rintro _ X s vs Q E _ _ ⟨v, r, rfl, ⟨t, rfl⟩, rfl⟩ k
  exact call_int_int (k (.int _) _ s.heap s.toks (StIn.refl _) ⟨_, rfl⟩ h)

abbrev IL (l : List Int) : List AV := l.map AV.int
theorem RelVs.ints {X : List Addr} {h : Heap} : ∀ {l : List Int} {vs : List Value}, RelVs X h (Mine.IL l) vs → IntsAre vs l
  | [], vs, r => by rw [show vs = [] from r]; exact .nil
  | n :: l, vs, ⟨v, r, e, ⟨t, hv⟩, h2⟩ => by rw [e, hv]; exact .cons n t h2.ints
theorem RelVs.of_ints {X : List Addr} {h : Heap} : ∀ {l : List Int} {vs : List Value}, IntsAre vs l → RelVs X h (Mine.IL l) vs
  | _, _, .nil => rfl
  | _, _, .cons n t r => ⟨_, _, rfl, ⟨t, rfl⟩, RelVs.of_ints r⟩

theorem CallB_sum {l : List Int} (h : Φ (.int l.sum)) : CallB C (.builtin "sum") [.lst (IL l)] Φ := by
  refine ⟨?_⟩
  rintro ok X s vs Q E _ _ ⟨v, r, rfl, ⟨a, vs', rfl, hx, hl', hr⟩, rfl⟩ k
  have hi := hr.ints
  obtain ⟨xs, hxs⟩ := hi.allInts.items
  rw [hxs] at hl'
  refine sum_intListG ok.room.hh hl' fun h' tk t' st => k (.int _) _ h' tk st ⟨t', ?_⟩ h
  have e1 : numsOf vs' = l := hi.numsOf
  have e2 : numsOf (intItems xs).toList = xs.toList.map (·.1) := nums_intItems xs
  rw [← hxs] at e2
  have e3 : xs.toList.map (·.1) = l := by rw [← e2]; exact e1
  rw [preSum_eq, List.take_of_length_le (by simp), e3]

-- items
structure Itm (C : CX) (o i : AV) (Φ : AV → Prop) : Prop where
  go : C.Ok → ∀ (X : List Addr) (s : Shared) (vo vi : Value) (Q : Value → Shared → Prop) (E : Value → Shared → Prop), PG C.g s.heap → XIn X s.heap → RelV X s.heap o vo → RelV X s.heap i vi →
    (∃ T id, s.TypeIs vo T ∧ typeLookup (.type T) "__getitem__" = pure (some (.builtin id))) ∧
    ((∀ av v h' tk, StIn s.heap h' → RelV X h' av v → Φ av → Q v { s with heap := h', toks := tk }) → wpAny (model C.g.prog C.g.w) C.A (getItem vo vi) Q E s)

theorem Ev_item {value slice : Expr} {pos : Pos} (h : Ev C S value fun o => Ev C S slice fun i => Itm C o i Φ)
    (hs : ∀ o i, subscripted slice false o i = operate [o, i] (getItem o i) := by intro _ _; with_unfolding_all rfl) : Ev C S (.Subscript value slice pos) Φ := by
  refine ⟨fun ok X s Q E p xi rs k => ?_⟩
  refine PyProof.Rows.Subscript_ (h.go ok X s _ E p xi rs fun o vo h₁ t₁ st₁ ro hb => ?_)
  refine hb.go ok X _ _ E (p.st st₁) (xi.st st₁) (rs.st st₁) fun i vi h₂ t₂ st₂ ri hc => ?_
  obtain ⟨⟨T, id, hT, hl⟩, hc⟩ := hc.go ok X { s with heap := h₂, toks := t₂ } vo vi Q E ((p.st st₁).st st₂) ((xi.st st₁).st st₂) (ro.st st₂) ri
  exact PyProof.Rows.tail_any hT hl (hc fun av v h' tk st r φ => k av v h' tk (st₁.trans (st₂.trans st)) r φ) (hs vo vi)

theorem Itm_list {l : List AV} {i : Int} {av : AV} (h0 : 0 ≤ i) (hi : i < 2 ^ 60) (hx : l[i.toNat]? = some av) (h : Φ av) : Itm C (.lst l) (.int i) Φ := by
  refine ⟨?_⟩
  rintro ok X s vo vi Q E p xi ⟨a, vs, rfl, hax, hl, hr⟩ ⟨t, rfl⟩
  refine ⟨⟨_, _, hl.typeIs, slot_list_getitem.lookup⟩, fun k => ?_⟩
  obtain ⟨v, hv, rv⟩ := hr.get i.toNat av hx
  exact wpAny_getItem_list hl h0 (by omega) (by simpa using hv) (k av v s.heap s.toks (StIn.refl _) rv h)
theorem Itm_listN {l : List AV} {i : Int} {av : AV} (h0 : i < 0) (h1 : -(l.length : Int) ≤ i) (hi : -(2 ^ 60) ≤ i) (hx : l[(i + l.length).toNat]? = some av) (h : Φ av) : Itm C (.lst l) (.int i) Φ := by
  refine ⟨?_⟩
  rintro ok X s vo vi Q E p xi ⟨a, vs, rfl, hax, hl, hr⟩ ⟨t, rfl⟩
  refine ⟨⟨_, _, hl.typeIs, slot_list_getitem.lookup⟩, fun k => ?_⟩
  obtain ⟨v, hv, rv⟩ := hr.get _ av hx
  exact wpAny_getItem_list_neg hl h0 (by rw [List.size_toArray, hr.length]; exact h1) (by omega) (by rw [List.size_toArray, hr.length]; simpa using hv) (k av v s.heap s.toks (StIn.refl _) rv h)
theorem Itm_tup {l : List AV} {i : Int} {j : Nat} {av : AV} (hi : -(2 ^ 60) ≤ i ∧ i < 2 ^ 60) (hj : seqIndex? i l.length = some j) (hx : l[j]? = some av) (h : Φ av) : Itm C (.tup l) (.int i) Φ := by
  refine ⟨?_⟩
  rintro ok X s vo vi Q E p xi ⟨a, vs, rfl, hl, hr⟩ ⟨t, rfl⟩
  refine ⟨⟨_, _, hl.typeIs, PyProof.Rows.slot_tuple_getitem.lookup⟩, fun k => ?_⟩
  obtain ⟨v, hv, rv⟩ := hr.get _ av hx
  exact PyProof.Rows.getItem_tuple hl (by omega) (by omega) (by rw [List.size_toArray, hr.length]; exact hj) (by simpa using hv) (k av v s.heap s.toks (StIn.refl _) rv h)

-- slices
def pickL {α : Type} (l : List α) (lo hi st : Option Int) : List α :=
  (sliceRange (sliceBounds lo hi st l.length).1 (sliceBounds lo hi st l.length).2.1 (sliceBounds lo hi st l.length).2.2).filterMap (l[·]?)
theorem slicePick_list (vs : List Value) (lo hi st : Option Int) : slicePick vs.toArray lo hi st = (pickL vs lo hi st).toArray := by
  simp [slicePick, pickL]
theorem RelVs.filterMap {X : List Addr} {h : Heap} {l : List AV} {vs : List Value} (r : RelVs X h l vs) : ∀ ix : List Nat, RelVs X h (ix.filterMap (l[·]?)) (ix.filterMap (vs[·]?))
  | [] => rfl
  | i :: ix => by
    rw [List.filterMap_cons, List.filterMap_cons]
    cases hl : l[i]? with
    | none =>
      have hlen := r.length
      have : vs[i]? = none := by rw [List.getElem?_eq_none_iff] at hl ⊢; omega
      rw [this]; exact RelVs.filterMap r ix
    | some a =>
      obtain ⟨v, hv, rv⟩ := r.get i a hl
      rw [hv]; exact ⟨v, _, rfl, rv, RelVs.filterMap r ix⟩
theorem RelVs.pick {X : List Addr} {h : Heap} {l : List AV} {vs : List Value} (r : RelVs X h l vs) (lo hi st : Option Int) : RelVs X h (pickL l lo hi st) (pickL vs lo hi st) := by
  unfold pickL; rw [r.length]; exact r.filterMap _

/-- a part of a slice -/
def EvPart (C : CX) (S : AS) (e : Option Expr) (Φ : Option Int → Prop) : Prop := match e with
  | none => Φ none
  | some e => Ev C S e fun a => match a with | .int i => Φ (some i) | _ => False
theorem EvPart.run {e : Option Expr} {Φ : Option Int → Prop} (h : EvPart C S e Φ) (ok : C.Ok) {X : List Addr} {s : Shared} {Q : Value → Shared → Prop} {E : Value → Shared → Prop} (p : PG C.g s.heap) (xi : XIn X s.heap) (rs : RelS C.env X s.heap S)
    (k : ∀ v i h' tk, StIn s.heap h' → IsPart v i → Φ i → Q v { s with heap := h', toks := tk }) : wpAny (model C.g.prog C.g.w) C.A (evalPart e C.env) Q E s := by
  cases e with
  | none => exact wpAny_pure (k .none none s.heap s.toks (StIn.refl _) .none h)
  | some e =>
    rw [evalPart_some]
    refine Ev.go h ok X s Q E p xi rs fun a v h' tk st r φ => ?_
    cases a <;> simp only at φ
    obtain ⟨t, rfl⟩ := r
    exact k _ _ h' tk st (.int _ t) φ

theorem Ev_slice {value : Expr} {lo hi st : Option Expr} {p pos : Pos}
    (h : Ev C S value fun o => EvPart C S lo fun a => EvPart C S hi fun b => EvPart C S st fun c => ∃ l, o = .lst l ∧ c ≠ some 0 ∧ l.length ≤ 2 ^ 20 ∧ Φ (.lst (pickL l a b c)))
    (hs : ∀ o i, ∃ ops, subscripted (.Slice lo hi st p) false o i = operate ops (getItem o i) := by intro _ _; exact ⟨_, by with_unfolding_all rfl⟩) : Ev C S (.Subscript value (.Slice lo hi st p) pos) Φ := by
  refine ⟨fun ok X s Q E pg xi rs k => ?_⟩
  refine PyProof.Rows.Subscript_ (h.go ok X s _ E pg xi rs fun o vo h₁ t₁ st₁ ro hb => ?_)
  refine wpAny_Slice ?_
  refine hb.run ok (X := X) (pg.st st₁) (xi.st st₁) (rs.st st₁) fun va a h₂ t₂ st₂ pa hb => ?_
  refine hb.run ok (X := X) ((pg.st st₁).st st₂) ((xi.st st₁).st st₂) ((rs.st st₁).st st₂) fun vb b h₃ t₃ st₃ pb hb => ?_
  refine hb.run ok (X := X) (((pg.st st₁).st st₂).st st₃) (((xi.st st₁).st st₂).st st₃) (((rs.st st₁).st st₂).st st₃) fun vc c h₄ t₄ st₄ pc hb => ?_
  obtain ⟨l, rfl, hc0, hlen, φ⟩ := hb
  have ro' := ((ro.st st₂).st st₃).st st₄
  obtain ⟨a', vs, rfl, hax, hl, hr⟩ := ro'
  obtain ⟨ops, hs⟩ := hs (.ref a') (.ref h₄.objs.size)
  have hl' := hl.push { cls := .type "slice", data := .fields #[va, vb, vc] }
  refine PyProof.Rows.tail_any (s := { s with heap := h₄.push { cls := .type "slice", data := .fields #[va, vb, vc] }, toks := t₄ }) (Heap.IsList.typeIs hl') slot_list_getitem.lookup (wpAny_getItem_list_slice hl' (Heap.IsSliceOf.new ..) pa pb pc hc0 ?_ ?_) hs
  · rw [slicePick_list]
    have stA : StIn s.heap h₄ := st₁.trans (st₂.trans (st₃.trans st₄))
    have stB := stA.trans (StIn.push h₄ { cls := .type "slice", data := .fields #[va, vb, vc] })
    have stC := StIn.push (h₄.push { cls := .type "slice", data := .fields #[va, vb, vc] }) { cls := .type "list", data := .seq (pickL vs a b c).toArray }
    exact k (.lst (pickL l a b c)) _ _ _ (stB.trans stC) ⟨_, pickL vs a b c, rfl, (xi.st stB).fresh, ⟨_, Heap.get?_push_size _ rfl, rfl, 0, rfl⟩, ((hr.pick a b c).st (StIn.push _ _)).st stC⟩ φ
  · rw [List.size_toArray, hr.length, sizeLine_eq]; omega

/-- two lists one behind the other -/
theorem Bin_addL {l l' : List AV} (hsz : l.length + l'.length ≤ 2 ^ 20) (h : Φ (.lst (l ++ l'))) : Bin C .Add (.lst l) (.lst l') Φ := by
  refine ⟨?_⟩
  rintro ok X s va vb Q E p xi ⟨a, vs, rfl, hax, hl, hr⟩ ⟨a', vs', rfl, hax', hl', hr'⟩ k
  obtain ⟨⟨cls, dd, data, sl⟩, ho, hc, n, hd⟩ := id hl
  obtain ⟨⟨cls2, dd2, data2, sl2⟩, ho2, hc2, n2, hd2⟩ := id hl'
  simp only at hc hd hc2 hd2
  subst hc hd hc2 hd2
  have e : vs.toArray ++ vs'.toArray = (vs ++ vs').toArray := by simp
  refine concat_meets ⟨_, ho, rfl⟩ ⟨_, ho2, rfl⟩ noFill_list_add seq_list_add PySem.F.slot_list_add PySem.F.entry_list_add (PySem.F.args_list_add_2 _ _)
    (list_addW a a' vs.toArray vs'.toArray n n2 dd dd2 sl sl2 (by rw [List.size_toArray, List.size_toArray, hr.length, hr'.length, sizeLine_eq]; omega)) ⟨ho, ho2, ?_⟩
  rw [e]
  exact k (.lst (l ++ l')) _ _ _ (StIn.push _ _) ⟨_, vs ++ vs', rfl, xi.fresh, ⟨_, Heap.get?_push_size _ rfl, rfl, 0, rfl⟩, (hr.append hr').st (StIn.push _ _)⟩ h
variable {C : CX} {S : AS}

inductive AFl where
  | next | brk | cont
  | ret (v : AV)

def RelFl (X : List Addr) (h : Heap) : AFl → Flow → Prop
  | .next, f => f = .next
  | .brk, f => f = .brk
  | .cont, f => f = .cont
  | .ret av, f => ∃ v, f = .ret v ∧ RelV X h av v

def AS.set (S : AS) (x : Str) (av : AV) : AS := { S with vs := (x, av) :: S.vs }
def AS.off (S : AS) (x : Str) : Prop := match S.own with | none => True | some (y, _) => (y == x) = false
def AS.le (S S' : AS) : Prop := (∀ x av, S'.vs.lookup x = some av → S.vs.lookup x = some av) ∧ S.own = S'.own

/-- the own list, if there is one -/
def OwnOk (C : CX) (s₀ : Shared) (X₀ : List Addr) (h : Heap) : Option (Str × List AV) → Option Addr → Prop
  | none, none => True
  | some (x, l), some b => (∃ vs, OwnAt C.env (b :: X₀) h x l b vs) ∧ s₀.heap.objs.size ≤ b
  | none, some _ => False
  | some _, none => False

/-- the frame at hand -/
structure FS (C : CX) (s₀ : Shared) (X₀ : List Addr) (β : Option Addr) (S : AS) (s : Shared) : Prop where
  call : ∃ m cm, InCallC s₀ C.env.locals m C.env.cells cm s
  vars : RelE C.env (β.toList ++ X₀) s.heap S.vs
  own : OwnOk C s₀ X₀ s.heap S.own β
  xin : XIn X₀ s₀.heap

theorem FS.same {s₀ s : Shared} {X₀ : List Addr} {β : Option Addr} (F : FS C s₀ X₀ β S s) : ∃ h tk, s = { s₀ with heap := h, toks := tk } := let ⟨_, _, c⟩ := F.call; c.toInCall.same
theorem FS.keep {s₀ s : Shared} {X₀ : List Addr} {β : Option Addr} (F : FS C s₀ X₀ β S s) : StIn s₀.heap s.heap := let ⟨_, _, c⟩ := F.call; c.toInCall.keep
theorem FS.relS {s₀ s : Shared} {X₀ : List Addr} {β : Option Addr} (F : FS C s₀ X₀ β S s) : RelS C.env (β.toList ++ X₀) s.heap S := by
  refine ⟨F.vars, fun x l e => ?_⟩
  have h := F.own
  rw [e] at h
  cases β with
  | none => exact h.elim
  | some b => obtain ⟨⟨vs, o⟩, _⟩ := h; exact ⟨b, vs, o⟩
theorem FS.xinh {s₀ s : Shared} {X₀ : List Addr} {β : Option Addr} (F : FS C s₀ X₀ β S s) : XIn (β.toList ++ X₀) s.heap := by
  intro a ha
  rcases List.mem_append.mp ha with h | h
  · cases β with
    | none => cases h
    | some b =>
      obtain rfl : a = b := by simpa using h
      have h := F.own
      cases ho : S.own with
      | none => rw [ho] at h; exact h.elim
      | some p =>
        rw [ho] at h
        obtain ⟨⟨vs, o⟩, _⟩ := h
        obtain ⟨n, hb⟩ := o.lst
        rw [hb]; rfl
  · exact (F.xin.st F.keep) a h

theorem Ns.uniq {h : Heap} {a : Addr} {m m' : Str → Option Value} (x : h.Ns a m) (y : h.Ns a m') : m = m' := by
  obtain ⟨o, es, ep, h1, h2, _, h4⟩ := x
  obtain ⟨o', es', ep', g1, g2, _, g4⟩ := y
  rw [h1] at g1; cases g1
  rw [h2] at g2; cases g2
  funext n; rw [← h4 n, ← g4 n]

/-- all but the frame's own and the own list stands -/
def FKeep (C : CX) (β : Option Addr) (h h' : Heap) : Prop := ∀ a o, a ≠ C.env.locals → (∀ x, C.env.cells.lookup x ≠ some a) → β ≠ some a → h.get? a = some o → h'.get? a = some o
def BEv (β : Option Addr) (h : Heap) (β' : Option Addr) : Prop := ∀ b, β' = some b → β = some b ∨ h.get? b = none
theorem FKeep.of {β : Option Addr} {h h' : Heap} (x : StIn h h') : FKeep C β h h' := fun a o _ _ _ e => x a o e
theorem BEv.refl (β : Option Addr) (h : Heap) : BEv β h β := fun _ e => .inl e
theorem FKeep.trans {β β' : Option Addr} {h h' h'' : Heap} (x : FKeep C β h h') (b : BEv β h β') (y : FKeep C β' h' h'') : FKeep C β h h'' := by
  intro a o h1 h2 h3 e
  refine y a o h1 h2 (fun hb => ?_) (x a o h1 h2 h3 e)
  rcases b a hb with hb | hb
  · exact h3 hb
  · rw [e] at hb; cases hb

/-- where the frame's own stand, and the own list -/
structure FFr (C : CX) (β : Option Addr) (h : Heap) : Prop where
  loc : ∃ m, h.Ns C.env.locals m
  cel : ∀ x c, C.env.cells.lookup x = some c → ∃ v, h.IsCell c v
  own : ∀ b, β = some b → ∃ vs, h.PlainList b vs
theorem FS.ffr {s₀ s : Shared} {X₀ : List Addr} {β : Option Addr} (F : FS C s₀ X₀ β S s) : FFr C β s.heap := by
  obtain ⟨m, cm, c⟩ := F.call
  refine ⟨⟨m, c.toInCall.ns⟩, fun x a e => ⟨_, c.cell x a e⟩, fun b e => ?_⟩
  subst e
  have h := F.own
  cases ho : S.own with
  | none => rw [ho] at h; exact h.elim
  | some p => rw [ho] at h; obtain ⟨⟨vs, o⟩, _⟩ := h; exact ⟨_, o.lst⟩
theorem BEv.trans {β β' β'' : Option Addr} {h h' : Heap} (x : BEv β h β') (y : BEv β' h' β'') (k : FKeep C β h h') (f' : FFr C β' h') : BEv β h β'' := by
  intro b e
  rcases y b e with e | e
  · exact x b e
  · cases hq : h.get? b with
    | none => exact .inr rfl
    | some o =>
      by_cases h1 : b = C.env.locals
      · obtain ⟨m, o', _, _, ho', _⟩ := f'.loc
        rw [h1, ho'] at e; cases e
      · by_cases h3 : β = some b
        · exact .inl h3
        · by_cases h2 : ∃ x, C.env.cells.lookup x = some b
          · obtain ⟨x, h2⟩ := h2
            obtain ⟨v, o', ho', _⟩ := f'.cel x b h2
            rw [ho'] at e; cases e
          · rw [k b o h1 (fun x hx => h2 ⟨x, hx⟩) h3 hq] at e; cases e
theorem FKeep.vkeep {β : Option Addr} {h h' : Heap} {X₀ : List Addr} (x : FKeep C β h h') (f : FFr C β h) : VKeep (β.toList ++ X₀) h h' := by
  have hL : ∀ a o, isVal o → h.get? a = some o → a ≠ C.env.locals := by
    rintro a o hv e rfl
    obtain ⟨m, o', es, ep, ho', hd, _⟩ := f.loc
    rw [e] at ho'; cases ho'
    rcases hv with ⟨xs, n, q⟩ | ⟨_, fs, q⟩ <;> rw [hd] at q <;> cases q
  have hC : ∀ a o, isVal o → h.get? a = some o → ∀ x, C.env.cells.lookup x ≠ some a := by
    intro a o hv e x hx
    obtain ⟨v, o', ho', hd⟩ := f.cel x a hx
    rw [e] at ho'; cases ho'
    rcases hv with ⟨xs, n, q⟩ | ⟨_, fs, q⟩ <;> rw [hd] at q <;> cases q
  refine ⟨fun a o ha hv e => x a o (hL a o hv e) (hC a o hv e) (fun hb => ha ?_) e, fun a o hv hc e => x a o (hL a o hv e) (hC a o hv e) (fun hb => hc ?_) e⟩
  · subst hb; simp
  · obtain ⟨vs, n, ho⟩ := f.own a hb
    rw [e] at ho; cases ho; rfl

/-- a store of a name -/
theorem store_rel {s₀ s : Shared} {X₀ : List Addr} {β : Option Addr} {x : Str} {av : AV} {v : Value} {M : Model} {A : Around} {Q : Unit → Shared → Prop} {E : Value → Shared → Prop} (ok : C.Ok) (F : FS C s₀ X₀ β S s) (hv : RelV (β.toList ++ X₀) s.heap av v)
    (hx : C.env.kindOf x = some .local ∨ (C.env.kindOf x = some .cell ∧ (C.env.cells.lookup x).isSome = true)) (hown : S.off x)
    (k : ∀ h' tk, FS C s₀ X₀ β (S.set x av) { s with heap := h', toks := tk } → FKeep C β s.heap h' → Q () { s with heap := h', toks := tk }) : wpAny M A (storeName C.env x v) Q E s := by
  obtain ⟨m, cm, c⟩ := F.call
  have fin : ∀ (h' : Heap) (tk : Nat), (∃ m cm, InCallC s₀ C.env.locals m C.env.cells cm { s with heap := h', toks := tk }) → FKeep C β s.heap h' → (∀ a o, isVal o → s.heap.get? a = some o → h'.get? a = some o) → Rd C.env h' x v → (∀ y w, (y == x) = false → Rd C.env s.heap y w → Rd C.env h' y w) → Q () { s with heap := h', toks := tk } := by
    intro h' tk hc fk hk hr hy
    have vk : ∀ X, VKeep X s.heap h' := fun X => ⟨fun a o _ hv e => hk a o hv e, fun a o hv _ e => hk a o hv e⟩
    refine k h' tk ⟨hc, ?_, ?_, F.xin⟩ fk
    · intro y aw e
      simp only [AS.set, List.lookup_cons] at e
      cases hb : y == x with
      | true =>
        rw [hb] at e; cases e
        rw [beq_iff_eq.mp hb]
        exact ⟨v, hr, hv.keep (vk _)⟩
      | false =>
        rw [hb] at e
        obtain ⟨w, h1, h2⟩ := F.vars y aw e
        exact ⟨w, hy y w hb h1, h2.keep (vk _)⟩
    · have h := F.own
      show OwnOk C s₀ X₀ h' S.own β
      cases ho : S.own with
      | none => rw [ho] at h; cases β with | none => trivial | some _ => exact h
      | some p =>
        obtain ⟨y, l⟩ := p
        rw [ho] at h
        cases β with
        | none => exact h
        | some b =>
          obtain ⟨⟨vs, o⟩, h1⟩ := h
          unfold AS.off at hown
          rw [ho] at hown
          obtain ⟨n, hb⟩ := o.lst
          exact ⟨⟨vs, hy y _ hown o.rd, o.inX, ⟨n, hk _ _ (.inl ⟨_, n, rfl⟩) hb⟩, o.rel.keep (vk _)⟩, h1⟩
  have fr := F.ffr
  have valL : ∀ a o, isVal o → s.heap.get? a = some o → a ≠ C.env.locals := by
    rintro a o hv e rfl
    obtain ⟨m, o', es, ep, ho', hd, _⟩ := fr.loc
    rw [e] at ho'; cases ho'
    rcases hv with ⟨xs, n, q⟩ | ⟨_, fs, q⟩ <;> rw [hd] at q <;> cases q
  have valC : ∀ a o, isVal o → s.heap.get? a = some o → ∀ x, C.env.cells.lookup x ≠ some a := by
    intro a o hv e x hx
    obtain ⟨v, o', ho', hd⟩ := fr.cel x a hx
    rw [e] at ho'; cases ho'
    rcases hv with ⟨xs, n, q⟩ | ⟨_, fs, q⟩ <;> rw [hd] at q <;> cases q
  rcases hx with hl | ⟨hl, hc⟩
  · refine wpAny_storeName_local hl c.toInCall.ns (fun h' hn' hs' => ?_) (by rw [ok.kind]; rfl)
    refine fin h' _ ⟨_, cm, ⟨⟨?_, hn', fun b o e => ?_, c.toInCall.fresh⟩, fun k' c' hc' => ?_, c.apart, c.above⟩⟩ ?_ ?_ (.inl ⟨hl, _, hn', by simp⟩) ?_
    · obtain ⟨h₁, tk, e⟩ := c.toInCall.same
      exact ⟨h', _, by rw [e]⟩
    · exact hs'.extBut b o (Nat.ne_of_lt (Nat.lt_of_lt_of_le (Heap.lt_size e) c.toInCall.fresh)) (c.toInCall.keep b o e)
    · exact (c.cell k' c' hc').sameBut hs' (Nat.ne_of_gt (c.above k' c' (mem_of_lookup hc')))
    · exact fun a o h1 _ _ e => hs'.extBut a o h1 e
    · exact fun a o hv e => hs'.extBut a o (valL a o hv e) e
    · rintro y w hy (⟨hk, m', hn, hw⟩ | ⟨hk, c', hc', hw⟩)
      · refine .inl ⟨hk, _, hn', ?_⟩
        rw [Ns.uniq hn c.toInCall.ns] at hw
        show (if y = x then some v else m y) = some w
        rw [if_neg (by intro e; rw [e] at hy; simp at hy)]; exact hw
      · exact .inr ⟨hk, c', hc', hw.sameBut hs' (Nat.ne_of_gt (c.above y c' (mem_of_lookup hc')))⟩
  · obtain ⟨cc, hc⟩ := Option.isSome_iff_exists.mp hc
    have hLc := c.above x cc (mem_of_lookup hc)
    refine wpAny_storeName_cell ok.kind hl hc (c.cell x cc hc) fun h' hc' hs' => ?_
    refine fin h' s.toks ⟨m, (fun y => if y = x then some v else cm y), ⟨⟨?_, c.toInCall.ns.sameBut hs' (Nat.ne_of_lt hLc), fun b o e => ?_, c.toInCall.fresh⟩, fun k' c' hk' => ?_, c.apart, c.above⟩⟩ ?_ ?_ (.inr ⟨.inl hl, cc, hc, hc'⟩) ?_
    · obtain ⟨h₁, tk, e⟩ := c.toInCall.same
      exact ⟨h', s.toks, by rw [e]⟩
    · exact hs'.extBut b o (Nat.ne_of_lt (Nat.lt_trans (Nat.lt_of_lt_of_le (Heap.lt_size e) c.toInCall.fresh) hLc)) (c.toInCall.keep b o e)
    · by_cases hkn : k' = x
      · subst hkn
        rw [hc] at hk'; cases hk'
        simpa using hc'
      · rw [if_neg hkn]
        exact (c.cell k' c' hk').sameBut hs' fun e => hkn (name_of_addr c.apart (mem_of_lookup hk') (e ▸ mem_of_lookup hc))
    · exact fun a o _ h2 _ e => hs'.extBut a o (fun q => h2 x (q ▸ hc)) e
    · exact fun a o hv e => hs'.extBut a o (fun q => valC a o hv e x (q ▸ hc)) e
    · rintro y w hy (⟨hk, m', hn, hw⟩ | ⟨hk, c', hc'', hw⟩)
      · exact .inl ⟨hk, m', hn.sameBut hs' (Nat.ne_of_lt hLc), hw⟩
      · refine .inr ⟨hk, c', hc'', hw.sameBut hs' fun e => ?_⟩
        have := name_of_addr c.apart (mem_of_lookup hc'') (e ▸ mem_of_lookup hc)
        rw [this] at hy; simp at hy

/-- statements: no exception leaves them -/
structure Ex (C : CX) (S : AS) (st : List Stmt) (Ψ : AFl → AS → Prop) : Prop where
  go : C.Ok → ∀ (s₀ : Shared) (X₀ : List Addr) (β : Option Addr) (s : Shared) (Q : Flow → Shared → Prop), PG C.g s₀.heap → FS C s₀ X₀ β S s →
    (∀ afl fl S' β' h' tk, FS C s₀ X₀ β' S' { s with heap := h', toks := tk } → FKeep C β s.heap h' → BEv β s.heap β' → RelFl X₀ h' afl fl → Ψ afl S' → Q fl { s with heap := h', toks := tk }) →
    wpAny (model C.g.prog C.g.w) C.A (execs st C.env) Q (fun _ _ => False) s
/-- one statement -/
structure ExS (C : CX) (S : AS) (st : Stmt) (Ψ : AFl → AS → Prop) : Prop where
  go : C.Ok → ∀ (s₀ : Shared) (X₀ : List Addr) (β : Option Addr) (s : Shared) (Q : Flow → Shared → Prop), PG C.g s₀.heap → FS C s₀ X₀ β S s →
    (∀ afl fl S' β' h' tk, FS C s₀ X₀ β' S' { s with heap := h', toks := tk } → FKeep C β s.heap h' → BEv β s.heap β' → RelFl X₀ h' afl fl → Ψ afl S' → Q fl { s with heap := h', toks := tk }) →
    wpAny (model C.g.prog C.g.w) C.A (exec st C.env) Q (fun _ _ => False) s

variable {Ψ : AFl → AS → Prop}

theorem Ex_nil (h : Ψ .next S) : Ex C S [] Ψ := ⟨fun _ _ _ β s _ _ F k => wpAny_execs_nil (k .next .next S β s.heap s.toks F (.of (StIn.refl _)) (.refl _ _) rfl h)⟩
theorem Ex_cons {st : Stmt} {rest : List Stmt} (h : ExS C S st fun fl S' => match fl with | .next => Ex C S' rest Ψ | fl => Ψ fl S') : Ex C S (st :: rest) Ψ := by
  refine ⟨fun ok s₀ X₀ β s Q p F k => ?_⟩
  refine wpAny_execs_cons (h.go ok s₀ X₀ β s _ p F fun afl fl S' β' h' tk F' fk bv rf ψ => ?_)
  cases afl with
  | next =>
    obtain rfl : fl = .next := rf
    exact ψ.go ok s₀ X₀ β' _ Q p F' fun afl fl S'' β'' h'' tk'' F'' fk'' bv'' rf'' ψ'' => k afl fl S'' β'' h'' tk'' F'' (fk.trans bv fk'') (bv.trans bv'' fk F'.ffr) rf'' ψ''
  | brk => obtain rfl : fl = .brk := rf; exact k .brk .brk S' β' h' tk F' fk bv rfl ψ
  | cont => obtain rfl : fl = .cont := rf; exact k .cont .cont S' β' h' tk F' fk bv rfl ψ
  | ret av => obtain ⟨v, rfl, rv⟩ := rf; exact k (.ret av) (.ret v) S' β' h' tk F' fk bv ⟨v, rfl, rv⟩ ψ

theorem FS.st {s₀ s : Shared} {X₀ : List Addr} {β : Option Addr} (F : FS C s₀ X₀ β S s) {h' : Heap} {tk : Nat} (k : StIn s.heap h') : FS C s₀ X₀ β S { s with heap := h', toks := tk } := by
  obtain ⟨m, cm, c⟩ := F.call
  refine ⟨⟨m, cm, ⟨⟨?_, c.toInCall.ns.keeps k, fun b o e => k b o (c.toInCall.keep b o e), c.toInCall.fresh⟩, fun x a e => (c.cell x a e).keeps k, c.apart, c.above⟩⟩, F.vars.st k, ?_, F.xin⟩
  · obtain ⟨h₁, tk₁, e⟩ := c.toInCall.same
    exact ⟨h', tk, by rw [e]⟩
  · have h := F.own
    show OwnOk C s₀ X₀ h' S.own β
    cases ho : S.own with
    | none => rw [ho] at h; cases β with | none => trivial | some _ => exact h
    | some p =>
      rw [ho] at h
      cases β with
      | none => exact h
      | some b => obtain ⟨⟨vs, o⟩, h1⟩ := h; exact ⟨⟨vs, o.st k⟩, h1⟩

theorem FS.weak {s₀ s : Shared} {X₀ : List Addr} {β : Option Addr} {S' : AS} (F : FS C s₀ X₀ β S s) (hl : S.le S') : FS C s₀ X₀ β S' s :=
  ⟨F.call, fun x av e => F.vars x av (hl.1 x av e), hl.2 ▸ F.own, F.xin⟩
theorem FS.dropOwn {s₀ s : Shared} {X₀ : List Addr} {β : Option Addr} (F : FS C s₀ X₀ β S s) : FS C s₀ X₀ none { S with own := none } s :=
  ⟨F.call, fun x av e => let ⟨v, h1, h2⟩ := F.vars x av e; ⟨v, h1, h2.less fun _ hp => List.mem_append_right _ (by simpa using hp)⟩, trivial, F.xin⟩

theorem Ex.weak {S' : AS} {st : List Stmt} (h : Ex C S' st Ψ) (hl : S.le S') : Ex C S st Ψ :=
  ⟨fun ok s₀ X₀ β s Q p F k => h.go ok s₀ X₀ β s Q p (F.weak hl) k⟩
theorem Ex.dropOwn {st : List Stmt} (h : Ex C { S with own := none } st Ψ) : Ex C S st Ψ :=
  ⟨fun ok s₀ X₀ β s Q p F k => h.go ok s₀ X₀ none s Q p F.dropOwn fun afl fl S' β' h' tk F' fk bv rf ψ =>
    k afl fl S' β' h' tk F' (fun a o h1 h2 _ e => fk a o h1 h2 (by simp) e) (fun b e => .inr ((bv b e).resolve_left (by simp))) rf ψ⟩
theorem Ex.mono {st : List Stmt} {Ψ' : AFl → AS → Prop} (h : Ex C S st Ψ) (hp : ∀ fl S, Ψ fl S → Ψ' fl S) : Ex C S st Ψ' :=
  ⟨fun ok s₀ X₀ β s Q p F k => h.go ok s₀ X₀ β s Q p F fun afl fl S' β' h' tk F' fk bv rf ψ => k afl fl S' β' h' tk F' fk bv rf (hp _ _ ψ)⟩
theorem ExS.mono {st : Stmt} {Ψ' : AFl → AS → Prop} (h : ExS C S st Ψ) (hp : ∀ fl S, Ψ fl S → Ψ' fl S) : ExS C S st Ψ' :=
  ⟨fun ok s₀ X₀ β s Q p F k => h.go ok s₀ X₀ β s Q p F fun afl fl S' β' h' tk F' fk bv rf ψ => k afl fl S' β' h' tk F' fk bv rf (hp _ _ ψ)⟩

/-- where a name may be stored -/
def Stb (C : CX) (S : AS) (x : Str) : Prop := (C.env.kindOf x = some .local ∨ (C.env.kindOf x = some .cell ∧ (C.env.cells.lookup x).isSome = true)) ∧ S.off x

theorem ExS_assign {x : Str} {px pos : Pos} {e : Expr} (h : Ev C S e fun av => Ψ .next (S.set x av)) (hx : Stb C S x)
    (hs : swapsWith e (some (.Name x px)) pos.line C.env = pure false := by rfl) : ExS C S (.Assign [.Name x px] e pos) Ψ := by
  refine ⟨fun ok s₀ X₀ β s Q p F k => ?_⟩
  refine wpAny_Assign_Name (h.go ok _ s _ _ (p.st F.keep) F.xinh F.relS fun av v h₁ t₁ st₁ rv ψ => ?_) hs
  exact store_rel ok (F.st (tk := t₁) st₁) rv hx.1 hx.2 fun h' tk F' fk => k .next .next _ β h' tk F' (FKeep.trans (.of st₁) (.refl _ _) fk) (.refl _ _) rfl ψ

theorem ExS_aug {x : Str} {px pos : Pos} {op : Operator} {e : Expr} {av : AV} (hl : S.vs.lookup x = some av) (h : Ev C S e fun b => IBin C op av b fun c => Ψ .next (S.set x c)) (hx : Stb C S x) (hn : (x == ("__classdict__" : Str)) = false := by decide) : ExS C S (.AugAssign (.Name x px) op e pos) Ψ := by
  refine ⟨fun ok s₀ X₀ β s Q p F k => ?_⟩
  obtain ⟨v, hr, hv⟩ := F.vars x av hl
  refine wpAny_AugAssign_Name (load_rd ok.kind hr ?_ hn)
  refine h.go ok _ s _ _ (p.st F.keep) F.xinh F.relS fun b vb h₁ t₁ st₁ rb hc => ?_
  refine hc.go ok _ _ v vb _ _ ((p.st F.keep).st st₁) (F.xinh.st st₁) (hv.st st₁) rb fun c vc h₂ t₂ st₂ rc ψ => ?_
  exact store_rel ok (F.st (tk := t₂) (st₁.trans st₂)) rc hx.1 hx.2 fun h' tk F' fk => k .next .next _ β h' tk F' (FKeep.trans (.of (st₁.trans st₂)) (.refl _ _) fk) (.refl _ _) rfl ψ

theorem ExS_return {e : Expr} {pos : Pos} (h : Ev C S e fun av => Ψ (.ret av) S) : ExS C S (.Return (some e) pos) Ψ := by
  refine ⟨fun ok s₀ X₀ β s Q p F k => ?_⟩
  refine wpAny_Return_some (h.go ok _ s _ _ (p.st F.keep) F.xinh F.relS fun av v h₁ t₁ st₁ rv ψ => ?_)
  exact k (.ret av) (.ret v) S β h₁ t₁ (F.st st₁) (.of st₁) (.refl _ _) ⟨v, rfl, rv.less fun _ hp => List.mem_append_right _ hp⟩ ψ

theorem ExS_if {t : Expr} {a b : List Stmt} {pos : Pos} (h : Tst C S t fun c => if c then Ex C S a Ψ else Ex C S b Ψ) : ExS C S (.If t a b pos) Ψ := by
  refine ⟨fun ok s₀ X₀ β s Q p F k => ?_⟩
  refine wpAny_If (h.go ok _ s _ _ (p.st F.keep) F.xinh F.relS fun c h₁ t₁ st₁ φ => ?_)
  have k' : ∀ afl fl S' β' h' tk, FS C s₀ X₀ β' S' { ({ s with heap := h₁, toks := t₁ } : Shared) with heap := h', toks := tk } → FKeep C β h₁ h' → BEv β h₁ β' → RelFl X₀ h' afl fl → Ψ afl S' → Q fl { ({ s with heap := h₁, toks := t₁ } : Shared) with heap := h', toks := tk } := by
    intro afl fl S' β' h' tk F' fk bv rf ψ
    exact k afl fl S' β' h' tk F' (FKeep.trans (.of st₁) (.refl _ _) fk) (BEv.trans (.refl _ _) bv (.of st₁) (F.st (tk := t₁) st₁).ffr) rf ψ
  cases c with
  | true => exact φ.go ok s₀ X₀ β _ Q p (F.st st₁) k'
  | false => exact φ.go ok s₀ X₀ β _ Q p (F.st st₁) k'
variable {C : CX} {S : AS} {Ψ : AFl → AS → Prop}

/-- while, by an invariant and a measure -/
theorem ExS_while {t : Expr} {body : List Stmt} {pos : Pos} (I : Nat → AS → Prop) {n₀ : Nat} {S₀ : AS} (hle : S.le S₀) (h0 : I n₀ S₀)
    (turn : ∀ n S, I n S → Tst C S t fun b => if b then Ex C S body (fun fl S' => match fl with
        | .next => ∃ S'' m, S'.le S'' ∧ m < n ∧ I m S''
        | .cont => ∃ S'' m, S'.le S'' ∧ m < n ∧ I m S''
        | .brk => Ψ .next S'
        | .ret v => Ψ (.ret v) S') else Ψ .next S) : ExS C S (.While t body [] pos) Ψ := by
  refine ⟨fun ok s₀ X₀ β s Q p F k => ?_⟩
  refine wpAny_While (codeAny_whileLoop (fun n s' => ∃ h' tk S' β', s' = { s with heap := h', toks := tk } ∧ FS C s₀ X₀ β' S' s' ∧ FKeep C β s.heap h' ∧ BEv β s.heap β' ∧ I n S') ?_ n₀ ⟨s.heap, s.toks, S₀, β, rfl, F.weak hle, .of (StIn.refl _), .refl _ _, h0⟩)
  rintro n s' ⟨h₁, t₁, S₁, β₁, rfl, F₁, fk₁, bv₁, hI⟩
  refine wpAny_mono ((turn n S₁ hI).go ok _ _ _ (fun _ _ => False) (p.st F₁.keep) F₁.xinh F₁.relS fun b h₂ t₂ st₂ φ => ?_) (fun _ _ x => x) fun _ _ x => x.elim
  cases b with
  | false =>
    exact wpAny_execs_nil (k .next .next S₁ β₁ h₂ t₂ (F₁.st st₂) (fk₁.trans bv₁ (.of st₂)) bv₁ rfl φ)
  | true =>
    refine wpAny_mono (φ.go ok s₀ X₀ β₁ _ _ p (F₁.st (tk := t₂) st₂) fun afl fl S₃ β₃ h₃ t₃ F₃ fk₃ bv₃ rf ψ => ?_) (fun _ _ x => x) fun _ _ x => x.elim
    have fk' : FKeep C β s.heap h₃ := (fk₁.trans bv₁ (FKeep.of st₂)).trans bv₁ fk₃
    have bv' : BEv β s.heap β₃ := bv₁.trans (BEv.trans (.refl _ _) bv₃ (.of st₂) (F₁.st (tk := t₂) st₂).ffr) fk₁ F₁.ffr
    cases afl with
    | next => obtain rfl : fl = .next := rf; obtain ⟨S'', m, hle, hm, hI'⟩ := ψ; exact ⟨m, hm, h₃, t₃, S'', β₃, rfl, F₃.weak hle, fk', bv', hI'⟩
    | cont => obtain rfl : fl = .cont := rf; obtain ⟨S'', m, hle, hm, hI'⟩ := ψ; exact ⟨m, hm, h₃, t₃, S'', β₃, rfl, F₃.weak hle, fk', bv', hI'⟩
    | brk => obtain rfl : fl = .brk := rf; exact k .next .next S₃ β₃ h₃ t₃ F₃ fk' bv' rfl ψ
    | ret av => obtain ⟨v, rfl, rv⟩ := rf; exact k (.ret av) (.ret v) S₃ β₃ h₃ t₃ F₃ fk' bv' ⟨v, rfl, rv⟩ ψ

/-- a range's ints -/
def rngL (a c : Int) (n : Nat) : List AV := (List.range n).map fun (i : Nat) => AV.int (a + i * c)
/-- what an iteration gives -/
inductive Items : AV → List AV → Prop
  | lst (l : List AV) : Items (.lst l) l
  | tup (l : List AV) : Items (.tup l) l
  | rng (a b c : Int) (n : Nat) (hn : Builtin.Range.rangeSize a b c = n) : Items (.rng a b c) (rngL a c n)

mutual
theorem RelV.more {X : List Addr} {h : Heap} {b : Addr} (hb : h.get? b = none) : (av : AV) → (v : Value) → RelV X h av v → RelV (b :: X) h av v
  | .int _, _, r => r
  | .bool _, _, r => r
  | .none, _, r => r
  | .str _, _, r => r
  | .ty _, _, r => r
  | .bi _, _, r => r
  | .rng _ _ _, _, r => r
  | .tup l, _, ⟨a, vs, e, ht, rr⟩ => ⟨a, vs, e, ht, RelVs.more hb l vs rr⟩
  | .lst l, _, ⟨a, vs, e, hx, ht, rr⟩ => ⟨a, vs, e, fun q => by
      rcases List.mem_cons.mp q with q | q
      · obtain ⟨o, ho, _⟩ := ht; rw [q, hb] at ho; cases ho
      · exact hx q, ht, RelVs.more hb l vs rr⟩
theorem RelVs.more {X : List Addr} {h : Heap} {b : Addr} (hb : h.get? b = none) : (l : List AV) → (vs : List Value) → RelVs X h l vs → RelVs (b :: X) h l vs
  | [], _, r => r
  | a :: l, _, ⟨v, r, e, h1, h2⟩ => ⟨v, r, e, RelV.more hb a v h1, RelVs.more hb l r h2⟩
end

/-- iterators that hand out a tuple of their own -/
def ownIters : List String := ["enumerate", "zip", "dict_itemiterator", "dict_reverseitemiterator", "odict_iterator", "itertools.zip_longest", "itertools.pairwise"]
/-- an iterator over the items xs, made at I -/
structure Itr (C : CX) (X : List Addr) (xs : List AV) (I : Addr) (h₀ : Heap) (fp : List Addr) (P : Nat → Value → Prop) (St : Nat → Heap → Prop) : Prop where
  walk : Walks C.g.prog C.g.w C.A I fp [I] xs.length P St
  start : St 0 h₀
  fps : ∀ b ∈ fp, b = I ∨ (b ∉ X ∧ ∃ o, h₀.get? b = some o ∧ isVal o) ∨ (∃ o, h₀.get? b = some o ∧ isVal o ∧ o.cls ≠ .type "list")
  item : ∀ i v, P i v → ∃ av, xs[i]? = some av ∧ RelV X h₀ av v
  itr : ∀ i h, St i h → ∃ o, h.get? I = some o ∧ ¬ isVal o
  cls : ∀ i h, St i h → ∃ o n, h.get? I = some o ∧ o.cls = .type n ∧ ownIters.contains n = false

theorem iter_go {X : List Addr} {xs : List AV} {av : AV} {v : Value} {s : Shared} {Q : Value → Shared → Prop} {E : Value → Shared → Prop} (ok : C.Ok) (hi : Items av xs) (r : RelV X s.heap av v)
    (k : ∀ fp P St o, Itr C X xs s.heap.objs.size (s.heap.push o) fp P St → o.isFreed = false → Q (.ref s.heap.objs.size) { s with heap := s.heap.push o }) : wpAny (model C.g.prog C.g.w) C.A (pyIter v) Q E s := by
  cases hi with
  | lst =>
    obtain ⟨ax, vs, rfl, hx, hl, hr⟩ := r
    have hne : ax ≠ s.heap.objs.size := by obtain ⟨o, ho, _⟩ := hl; exact Nat.ne_of_lt (Heap.lt_size ho)
    refine wpAny_pyIter_list hl (k [s.heap.objs.size, ax] (fun i v => vs.toArray[i]? = some v) (fun i h => h.IsListIter s.heap.objs.size ax i ∧ h.IsList ax vs.toArray) _ ⟨?_, ?_, ?_, ?_, ?_, ?_⟩ rfl)
    · have W := Walks.list (prog := C.g.prog) (w := C.g.w) ok.room.hh s.heap.objs.size ax hne vs.toArray
      rw [show vs.toArray.size = xs.length from hr.length] at W
      exact W
    · exact ⟨⟨_, Heap.get?_push_size _ rfl, rfl, rfl⟩, hl.push _⟩
    · intro b hb
      rcases List.mem_cons.mp hb with e | hb
      · exact .inl e
      · obtain rfl := List.mem_singleton.mp hb
        obtain ⟨o, ho, hc, n, hd⟩ := hl
        exact .inr (.inl ⟨hx, o, Heap.get?_push_of_some _ ho, .inl ⟨_, n, hd⟩⟩)
    · intro i v hP
      have hP' : vs[i]? = some v := by simpa using hP
      have hlt : i < xs.length := by rw [← hr.length]; exact (List.getElem?_eq_some_iff.mp hP').1
      obtain ⟨v', hv', rv⟩ := hr.get i xs[i] (by simp)
      rw [hP'] at hv'; cases hv'
      exact ⟨xs[i], by simp, rv.st (StIn.push _ _)⟩
    · rintro i h ⟨⟨o, ho, hc, hd⟩, _⟩
      refine ⟨o, ho, ?_⟩
      rintro (⟨xs, n, q⟩ | ⟨q, _⟩)
      · rw [hd] at q; cases q
      · rw [hc] at q; exact absurd q (by decide)
    · rintro i h ⟨⟨o, ho, hc, hd⟩, _⟩
      exact ⟨o, _, ho, hc, by decide⟩
  | tup =>
    obtain ⟨ax, vs, rfl, hl, hr⟩ := r
    have hne : ax ≠ s.heap.objs.size := by obtain ⟨o, ho, _⟩ := hl; exact Nat.ne_of_lt (Heap.lt_size ho)
    refine wpAny_pyIter_tuple hl (k [s.heap.objs.size, ax] (fun i v => vs.toArray[i]? = some v) (fun i h => h.IsTupleIter s.heap.objs.size ax i ∧ h.IsTuple ax vs.toArray) _ ⟨?_, ?_, ?_, ?_, ?_, ?_⟩ rfl)
    · have W := Walks.tuple (prog := C.g.prog) (w := C.g.w) ok.room.hh s.heap.objs.size ax hne vs.toArray
      rw [show vs.toArray.size = xs.length from hr.length] at W
      exact W
    · exact ⟨⟨_, Heap.get?_push_size _ rfl, rfl, rfl⟩, hl.push _⟩
    · intro b hb
      rcases List.mem_cons.mp hb with e | hb
      · exact .inl e
      · obtain rfl := List.mem_singleton.mp hb
        obtain ⟨o, ho, hc, n, hd⟩ := hl
        exact .inr (.inr ⟨o, Heap.get?_push_of_some _ ho, .inl ⟨_, n, hd⟩, by rw [hc]; decide⟩)
    · intro i v hP
      have hP' : vs[i]? = some v := by simpa using hP
      have hlt : i < xs.length := by rw [← hr.length]; exact (List.getElem?_eq_some_iff.mp hP').1
      obtain ⟨v', hv', rv⟩ := hr.get i xs[i] (by simp)
      rw [hP'] at hv'; cases hv'
      exact ⟨xs[i], by simp, rv.st (StIn.push _ _)⟩
    · rintro i h ⟨⟨o, ho, hc, hd⟩, _⟩
      refine ⟨o, ho, ?_⟩
      rintro (⟨xs, n, q⟩ | ⟨q, _⟩)
      · rw [hd] at q; cases q
      · rw [hc] at q; exact absurd q (by decide)
    · rintro i h ⟨⟨o, ho, hc, hd⟩, _⟩
      exact ⟨o, _, ho, hc, by decide⟩
  | rng a b c n hn =>
    obtain ⟨r, t, u, w, rfl, hr⟩ := r
    have hlen : (rngL a c n).length = n := by simp [rngL]
    have hit : ∀ (i : Nat) v (h : Heap), (∃ t, v = Value.int (a + i * c) t) → i < n → ∃ av, (rngL a c n)[i]? = some av ∧ RelV X h av v := by
      rintro i v h ⟨t, rfl⟩ hlt
      exact ⟨.int (a + i * c), by simp [rngL, hlt], ⟨t, rfl⟩⟩
    cases hs : Builtin.Range.small a b c with
    | true =>
      refine wpAny_pyIter_range hr hs (k [s.heap.objs.size] (fun i v => i < n ∧ ∃ t, v = .int (a + i * c) t) (fun i h => IsRangeIter h s.heap.objs.size (a + (i : Nat) * c) ((n : Int) - (i : Nat)) c) _ ⟨?_, ?_, ?_, ?_, ?_, ?_⟩ rfl)
      · rw [hlen]
        have W := Walks.range (prog := C.g.prog) (w := C.g.w) ok.room.hh s.heap.objs.size a c n
        exact ⟨W.sub, W.frame, fun i s Q E hi st hQ => W.item i s Q E hi st fun v h' tk hP => hQ v h' tk ⟨hi, hP⟩, W.done, W.self⟩
      · show IsRangeIter _ _ _ _ _
        rw [show a + ((0 : Nat) : Int) * c = a by simp, show (n : Int) - ((0 : Nat) : Int) = Builtin.Range.rangeSize a b c by rw [hn]; simp]
        exact Heap.get?_push_size _ rfl
      · intro b hb; exact .inl (List.mem_singleton.mp hb)
      · exact fun i v hP => hit i v _ hP.2 hP.1
      · intro i h hst
        refine ⟨_, hst, ?_⟩
        rintro (⟨xs, n, q⟩ | ⟨q, _⟩)
        · cases q
        · exact absurd q (show Value.type "range_iterator" ≠ Value.type "range" by decide)
      · intro i h hst
        exact ⟨_, "range_iterator", hst, rfl, by decide⟩
    | false =>
      refine wpAny_pyIter_longrange hr hs (k [s.heap.objs.size] (fun i v => i < n ∧ ∃ t, v = .int (a + i * c) t) (fun i h => IsLongIter h s.heap.objs.size (a + (i : Nat) * c) ((n : Int) - (i : Nat)) c) _ ⟨?_, ?_, ?_, ?_, ?_, ?_⟩ rfl)
      · rw [hlen]
        have W := Walks.longrange (prog := C.g.prog) (w := C.g.w) ok.room.hh s.heap.objs.size a c n
        exact ⟨W.sub, W.frame, fun i s Q E hi st hQ => W.item i s Q E hi st fun v h' tk hP => hQ v h' tk ⟨hi, hP⟩, W.done, W.self⟩
      · show IsLongIter _ _ _ _ _
        rw [show a + ((0 : Nat) : Int) * c = a by simp, show (n : Int) - ((0 : Nat) : Int) = Builtin.Range.rangeSize a b c by rw [hn]; simp]
        exact Heap.get?_push_size _ rfl
      · intro b hb; exact .inl (List.mem_singleton.mp hb)
      · exact fun i v hP => hit i v _ hP.2 hP.1
      · intro i h hst
        refine ⟨_, hst, ?_⟩
        rintro (⟨xs, n, q⟩ | ⟨q, _⟩)
        · cases q
        · exact absurd q (show Value.type "longrange_iterator" ≠ Value.type "range" by decide)
      · intro i h hst
        exact ⟨_, "longrange_iterator", hst, rfl, by decide⟩

/-- for, over a name, by an invariant on the turn's number -/
theorem ExS_for {x : Str} {px pos : Pos} {iter : Expr} {body : List Stmt}
    (h : Ev C S iter fun av => ∃ xs, Items av xs ∧ ∃ I : Nat → AS → Prop, (∃ S₀, S.le S₀ ∧ I 0 S₀) ∧
      (∀ i S av, xs[i]? = some av → I i S → Stb C S x ∧ Ex C (S.set x av) body fun fl S' => match fl with
        | .next => ∃ S'', S'.le S'' ∧ I (i + 1) S''
        | .cont => ∃ S'', S'.le S'' ∧ I (i + 1) S''
        | .brk => Ψ .next S'
        | .ret v => Ψ (.ret v) S') ∧ (∀ S, I xs.length S → Ψ .next S))
    (hs : ∀ x, foldedSetIterable iter C.env x = pure x := by intro _; rfl) : ExS C S (.For (.Name x px) iter body [] pos) Ψ := by
  refine ⟨fun ok s₀ X₀ β s Q p F k => ?_⟩
  refine wpAny_For (h.go ok _ s _ _ (p.st F.keep) F.xinh F.relS fun av v h₁ t₁ st₁ rv hyp => ?_) hs
  obtain ⟨xs, hit, I, ⟨S₀, hle0, hI0⟩, hturn, hend⟩ := hyp
  refine iter_go ok hit rv fun fp P St o itr hfree => ?_
  have F₁ : FS C s₀ X₀ β S { s with heap := h₁.push o, toks := t₁ } := F.st (st₁.trans (StIn.push _ _))
  generalize hIaddr : h₁.objs.size = J at itr
  -- what is kept: relative to the heap with the iterator
  have hJ : (h₁.push o).get? J = some o := by rw [← hIaddr]; exact Heap.get?_push_size _ hfree
  have hJnone : h₁.get? J = none := by
    cases e : h₁.get? J with
    | none => rfl
    | some o' => have := Heap.lt_size e; rw [hIaddr] at this; exact absurd this (Nat.lt_irrefl _)
  have hJs : s.heap.get? J = none := by
    cases e : s.heap.get? J with
    | none => rfl
    | some o' => rw [st₁ _ _ e] at hJnone; cases hJnone
  refine codeAny_forLoop (fun n s' => ∃ h' tk S' β' i, s' = { s with heap := h', toks := tk } ∧ FS C s₀ X₀ β' S' s' ∧ FKeep C β s.heap h' ∧ BEv β s.heap β' ∧ (∀ b, β' = some b → β = some b ∨ (h₁.push o).get? b = none) ∧
      VKeep (β.toList ++ X₀) (h₁.push o) h' ∧ (∀ a oa, a ≠ C.env.locals → (∀ x, C.env.cells.lookup x ≠ some a) → β ≠ some a → a ≠ J → (h₁.push o).get? a = some oa → h'.get? a = some oa) ∧ St i h' ∧ i ≤ xs.length ∧ n = xs.length + 1 - i ∧ I i S') ?_ (xs.length + 1)
    ⟨h₁.push o, t₁, S₀, β, 0, rfl, F₁.weak hle0, .of (st₁.trans (StIn.push _ _)), .refl _ _, (fun b e => .inl e), .refl _ _, (fun _ _ _ _ _ _ e => e), itr.start, Nat.zero_le _, rfl, hI0⟩
  rintro n s' ⟨h', tk, S', β', i, rfl, F', fk, bv, bo, vk, lk, hst, hle, rfl, hI⟩
  -- the iterator is none of the frame's
  have hJL : J ≠ C.env.locals := by
    rintro rfl
    obtain ⟨m, hn⟩ := F.ffr.loc
    obtain ⟨o', _, _, ho', _⟩ := hn
    rw [ho'] at hJs; cases hJs
  have hJc : ∀ y, C.env.cells.lookup y ≠ some J := by
    intro y e
    obtain ⟨w, o', ho', _⟩ := F.ffr.cel y J e
    rw [ho'] at hJs; cases hJs
  have hJb : β' ≠ some J := by
    intro e
    rcases bo J e with e | e
    · obtain ⟨vs, n, ho'⟩ := F.ffr.own J e
      rw [ho'] at hJs; cases hJs
    · rw [hJ] at e; cases e
  have kp : ∀ {h'' : Heap}, (∀ b o, b ∉ [J] → h'.get? b = some o → h''.get? b = some o) → ∀ tk, FS C s₀ X₀ β' S' { s with heap := h'', toks := tk } ∧ FKeep C β s.heap h'' ∧ VKeep (β.toList ++ X₀) (h₁.push o) h'' := by
    intro h'' hk tk
    have hkJ : ∀ b o, b ≠ J → h'.get? b = some o → h''.get? b = some o := fun b o hb e => hk b o (by simpa using hb) e
    obtain ⟨oi, hoi, hnv⟩ := itr.itr i h' hst
    have vk2 : ∀ X, VKeep X h' h'' := fun X => ⟨fun a o _ hv e => hkJ a o (by rintro rfl; rw [e] at hoi; cases hoi; exact hnv hv) e, fun a o hv _ e => hkJ a o (by rintro rfl; rw [e] at hoi; cases hoi; exact hnv hv) e⟩
    refine ⟨?_, ?_, vk.trans (vk2 _)⟩
    · obtain ⟨m, cm, c⟩ := F'.call
      have hrd : ∀ y w, Rd C.env h' y w → Rd C.env h'' y w := by
        rintro y w (⟨hk', m', hn, hw⟩ | ⟨hk', c', hc', hw⟩)
        · exact .inl ⟨hk', m', hn.at' fun o e => hkJ _ o (Ne.symm hJL) e, hw⟩
        · obtain ⟨o', ho', hd'⟩ := hw
          exact .inr ⟨hk', c', hc', o', hkJ _ _ (fun q => hJc y (q ▸ hc')) ho', hd'⟩
      refine ⟨⟨m, cm, ⟨⟨?_, c.toInCall.ns.at' fun o e => hkJ _ o (Ne.symm hJL) e, fun b o e => ?_, c.toInCall.fresh⟩, fun y a e => ?_, c.apart, c.above⟩⟩, ?_, ?_, F'.xin⟩
      · obtain ⟨h₁, tk₁, e⟩ := F.same
        exact ⟨h'', tk, by rw [e]⟩
      · refine hkJ b o ?_ (c.toInCall.keep b o e)
        rintro rfl
        rw [F.keep _ _ e] at hJs; cases hJs
      · obtain ⟨o', ho', hd'⟩ := c.cell y a e
        exact ⟨o', hkJ _ _ (fun q => hJc y (q ▸ e)) ho', hd'⟩
      · exact fun y aw e => let ⟨w, h1, h2⟩ := F'.vars y aw e; ⟨w, hrd y w h1, h2.keep (vk2 _)⟩
      · have h := F'.own
        show OwnOk C s₀ X₀ h'' S'.own β'
        cases ho : S'.own with
        | none => rw [ho] at h; cases β' with | none => trivial | some _ => exact h
        | some q =>
          rw [ho] at h
          cases β' with
          | none => exact h
          | some b =>
            obtain ⟨⟨vs, ow⟩, h1⟩ := h
            exact ⟨⟨vs, hrd _ _ ow.rd, ow.inX, ow.lst.at fun o e => hkJ b o (by rintro rfl; exact hJb rfl) e, ow.rel.keep (vk2 _)⟩, h1⟩
    · intro a oa h1 h2 h3 e
      refine hkJ a oa ?_ (fk a oa h1 h2 h3 e)
      rintro rfl; rw [hJs] at e; cases e
  by_cases hlt : i < xs.length
  · refine itr.walk.item i _ _ _ hlt hst fun w h₂ t₂ hP hst₂ hk₂ => ?_
    obtain ⟨F₂, fk₂, vk₂⟩ := kp hk₂ t₂
    obtain ⟨aw, haw, raw⟩ := itr.item i w hP
    obtain ⟨hstb, hbody⟩ := hturn i S' aw haw hI
    have rw₂ : RelV (β'.toList ++ X₀) h₂ aw w := by
      cases hb : β' with
      | none => exact (raw.keep vk₂).less fun q hq => List.mem_append_right _ (by simpa using hq)
      | some b =>
        rcases bo b hb with e | e
        · rw [← e]; exact raw.keep vk₂
        · have r1 : RelV (b :: (β.toList ++ X₀)) (h₁.push o) aw w := RelV.more e aw w raw
          have r2 := r1.keep (vk₂.sub fun q hq => List.mem_cons_of_mem _ hq)
          exact r2.less fun q hq => by
            rcases List.mem_append.mp hq with hq | hq
            · obtain rfl : q = b := by simpa using hq
              exact List.mem_cons_self
            · exact List.mem_cons_of_mem _ (List.mem_append_right _ hq)
    refine wpAny_assign_Name (store_rel ok F₂ rw₂ hstb.1 hstb.2 fun h₃ t₃ F₃ fk₃ => ?_)
    refine wpAny_mono (hbody.go ok s₀ X₀ β' _ _ p F₃ fun afl fl S₄ β₄ h₄ t₄ F₄ fk₄ bv₄ rf ψ => ?_) (fun _ _ q => q) fun _ _ q => q.elim
    have fk23 : FKeep C β' h₂ h₄ := fk₃.trans (.refl _ _) fk₄
    have fk' : FKeep C β s.heap h₄ := fk₂.trans bv fk23
    have bv24 : BEv β' h₂ β₄ := BEv.trans (.refl _ _) bv₄ fk₃ F₃.ffr
    have bv' : BEv β s.heap β₄ := bv.trans bv24 fk₂ F₂.ffr
    have hst₄ : St (i + 1) h₄ := itr.walk.frame _ _ _ hst₂ fun b hb ob e => by
      rcases itr.fps b hb with rfl | ⟨hx, oo, ho, hv⟩ | ⟨oo, ho, hv, hcl⟩
      · exact fk23 _ _ hJL hJc hJb e
      · have e2 := vk₂.off b oo hx hv ho
        rw [e] at e2; cases e2
        refine (fk23.vkeep (X₀ := X₀) F₂.ffr).off b _ (fun q => ?_) hv e
        rcases List.mem_append.mp q with q | q
        · cases hbb : β' with
          | none => rw [hbb] at q; cases q
          | some b' =>
            rw [hbb] at q
            obtain rfl : b = b' := by simpa using q
            rcases bo _ hbb with h1 | h1
            · exact hx (by rw [h1]; simp)
            · rw [ho] at h1; cases h1
        · exact hx (List.mem_append_right _ q)
      · have e2 := vk₂.imm b oo hv hcl ho
        rw [e] at e2; cases e2
        exact (fk23.vkeep (X₀ := X₀) F₂.ffr).imm b _ hv hcl e
    have vk' : VKeep (β.toList ++ X₀) (h₁.push o) h₄ := by
      have v4 := fk23.vkeep (X₀ := X₀) F₂.ffr
      refine ⟨fun a oa ha hv e => v4.off a oa (fun q => ?_) hv (vk₂.off a oa ha hv e), fun a oa hv hc e => v4.imm a oa hv hc (vk₂.imm a oa hv hc e)⟩
      rcases List.mem_append.mp q with q | q
      · cases hbb : β' with
        | none => rw [hbb] at q; cases q
        | some b' =>
          rw [hbb] at q
          obtain rfl : a = b' := by simpa using q
          rcases bo _ hbb with h1 | h1
          · exact ha (by rw [h1]; simp)
          · rw [e] at h1; cases h1
      · exact ha (List.mem_append_right _ q)
    have bo' : ∀ b, β₄ = some b → β = some b ∨ (h₁.push o).get? b = none := by
      intro b hb
      by_cases h3 : β = some b
      · exact .inl h3
      rcases bv24 b hb with e | e
      · exact bo b e
      · cases hq : (h₁.push o).get? b with
        | none => exact .inr rfl
        | some oq =>
          exfalso
          by_cases hbJ : b = J
          · subst hbJ
            obtain ⟨oi, hoi, _⟩ := itr.itr (i + 1) h₂ hst₂
            rw [hoi] at e; cases e
          · by_cases h1 : b = C.env.locals
            · obtain ⟨m, o', _, _, ho', _⟩ := F₂.ffr.loc
              rw [h1, ho'] at e; cases e
            · by_cases h2 : ∃ y, C.env.cells.lookup y = some b
              · obtain ⟨y, h2⟩ := h2
                obtain ⟨v, o', ho', _⟩ := F₂.ffr.cel y b h2
                rw [ho'] at e; cases e
              · have hkJ := hk₂ b oq (by simpa using hbJ) (lk b oq h1 (fun y hy => h2 ⟨y, hy⟩) h3 hbJ hq)
                rw [hkJ] at e; cases e
    have lk' : ∀ a oa, a ≠ C.env.locals → (∀ x, C.env.cells.lookup x ≠ some a) → β ≠ some a → a ≠ J → (h₁.push o).get? a = some oa → h₄.get? a = some oa := by
      intro a oa h1 h2 h3 h4 e
      refine fk23 a oa h1 h2 (fun hb => ?_) (hk₂ a oa (by simpa using h4) (lk a oa h1 h2 h3 h4 e))
      rcases bo a hb with q | q
      · exact h3 q
      · rw [e] at q; cases q
    have hn' : xs.length + 1 - (i + 1) < xs.length + 1 - i := by omega
    cases afl with
    | next => obtain rfl : fl = .next := rf; obtain ⟨S'', hle', hI'⟩ := ψ; exact ⟨_, hn', h₄, t₄, S'', β₄, i + 1, rfl, F₄.weak hle', fk', bv', bo', vk', lk', hst₄, hlt, rfl, hI'⟩
    | cont => obtain rfl : fl = .cont := rf; obtain ⟨S'', hle', hI'⟩ := ψ; exact ⟨_, hn', h₄, t₄, S'', β₄, i + 1, rfl, F₄.weak hle', fk', bv', bo', vk', lk', hst₄, hlt, rfl, hI'⟩
    | brk => obtain rfl : fl = .brk := rf; exact k .next .next S₄ β₄ h₄ t₄ F₄ fk' bv' rfl ψ
    | ret av => obtain ⟨v, rfl, rv⟩ := rf; exact k (.ret av) (.ret v) S₄ β₄ h₄ t₄ F₄ fk' bv' ⟨v, rfl, rv⟩ ψ
  · have hin : i = xs.length := by omega
    subst hin
    refine itr.walk.done _ _ _ hst fun h₂ t₂ hk₂ => wpAny_execs_nil ?_
    obtain ⟨F₂, fk₂, _⟩ := kp hk₂ t₂
    exact k .next .next S' β' h₂ t₂ F₂ fk₂ bv rfl (hend S' hI)
variable {C : CX} {S : AS} {Ψ : AFl → AS → Prop}

def AS.sets (S : AS) : List Str → List AV → AS
  | x :: xs, a :: as => (S.set x a).sets xs as
  | _, _ => S

/-- names stored one after the other -/
theorem stores_rel {s₀ : Shared} {X₀ : List Addr} {β : Option Addr} (ok : C.Ok) {M : Model} {A : Around} {E : Value → Shared → Prop} :
    ∀ (fs : List (Str × (Value → Sem Unit))) (as : List AV) (vs : List Value) (S : AS) (s : Shared) (Q : Unit → Shared → Prop), FS C s₀ X₀ β S s → RelVs (β.toList ++ X₀) s.heap as vs → fs.length = as.length →
      (∀ x ∈ fs, ∀ v Q s, wpAny M A (storeName C.env x.1 v) Q E s → wpAny M A (x.2 v) Q E s) →
      (∀ x ∈ fs, (C.env.kindOf x.1 = some .local ∨ (C.env.kindOf x.1 = some .cell ∧ (C.env.cells.lookup x.1).isSome = true)) ∧ S.off x.1) →
      (∀ h' tk, FS C s₀ X₀ β (S.sets (fs.map (·.1)) as) { s with heap := h', toks := tk } → FKeep C β s.heap h' → Q () { s with heap := h', toks := tk }) → wpAny M A (assignInOrder (fs.map (·.2)) vs) Q E s
  | [], _, vs, S, s, Q, F, r, hl, hf, hx, k => by
    show wpAny M A (assignInOrder [] vs) Q E s
    unfold assignInOrder
    exact wpAny_pure (k s.heap s.toks F (.of (StIn.refl _)))
  | x :: xs, [], vs, S, s, Q, F, r, hl, hf, hx, k => by simp at hl
  | (x, f) :: xs, a :: as, vs, S, s, Q, F, r, hl, hf, hx, k => by
    obtain ⟨v, vs', rfl, rv, rr⟩ := r
    show wpAny M A (do holding vs' (f v); assignInOrder (xs.map (·.2)) vs') Q E s
    refine wpAny_bind (wpAny_holding (hf (x, f) (List.mem_cons_self) v _ s ?_))
    refine store_rel ok F rv (hx (x, f) List.mem_cons_self).1 (hx (x, f) List.mem_cons_self).2 fun h' tk F' fk => ?_
    refine stores_rel ok xs as vs' (S.set x a) _ Q F' (rr.keep (fk.vkeep F.ffr)) (by simpa using hl) (fun y hy => hf y (List.mem_cons_of_mem _ hy)) (fun y hy => hx y (List.mem_cons_of_mem _ hy)) fun h'' tk' F'' fk' => ?_
    exact k h'' tk' F'' (fk.trans (.refl _ _) fk')

theorem RelVs.snoc {X : List Addr} {h : Heap} : ∀ {l : List AV} {vs : List Value} {a : AV} {v : Value}, RelVs X h l vs → RelV X h a v → RelVs X h (l ++ [a]) (vs ++ [v])
  | _, _, _, _, r, ra => r.append ⟨_, _, rfl, ra, rfl⟩
theorem RelVs.rev {X : List Addr} {h : Heap} : ∀ {l : List AV} {vs : List Value}, RelVs X h l vs → RelVs X h l.reverse vs.reverse
  | [], _, r => by rw [show _ = [] from r]; rfl
  | a :: l, _, ⟨v, r, e, h1, h2⟩ => by rw [e, List.reverse_cons, List.reverse_cons]; exact (RelVs.rev h2).snoc h1

theorem ext_st {h h' : Heap} (he : Heap.ExtBut h.objs.size h h') : StIn h h' := fun b o e => he b o (Nat.ne_of_lt (Heap.lt_size e)) e

/-- a tuple handed to targets that are names -/
theorem unpack_go {s₀ s : Shared} {X₀ : List Addr} {β : Option Addr} {a : Addr} {l : List AV} {vs : List Value} {nps : List (Str × Pos)} {elts : List Expr} {k₀ : Nat} {tp : Pos} {Q : Unit → Shared → Prop} {E : Value → Shared → Prop} (ok : C.Ok) (F : FS C s₀ X₀ β S s)
    (ht : s.heap.IsTuple a vs.toArray) (hr : RelVs (β.toList ++ X₀) s.heap l vs) (hl : l.length = nps.length) (hx : ∀ x ∈ nps, Stb C S x.1) (he : elts = nps.map fun p => Expr.Name p.1 p.2)
    (k : ∀ h' tk, FS C s₀ X₀ β (S.sets (nps.map (·.1)) l) { s with heap := h', toks := tk } → FKeep C β s.heap h' → Q () { s with heap := h', toks := tk }) :
    wpAny (model C.g.prog C.g.w) C.A (assign (.Tuple elts k₀ tp) C.env (.ref a)) Q E s := by
  have hae : ∀ nps : List (Str × Pos), assignEach (nps.map fun p => Expr.Name p.1 p.2) C.env = nps.map fun p => (false, assign (.Name p.1 p.2) C.env) := by
    intro nps
    induction nps with
    | nil => rfl
    | cons p r ih => rw [List.map_cons, List.map_cons, ← ih]; rfl
  subst he
  refine wpAny_assign_Tuple ok.room.hh ht (by rw [hae, List.length_map, List.size_toArray, hr.length, hl]) (by
    rw [hae]
    induction nps with
    | nil => rfl
    | cons p r _ => simp) fun h' hb => ?_
  have st := ext_st hb
  have e1 : (nps.map fun p => (p.1, assign (.Name p.1 p.2) C.env)).map (·.1) = nps.map (·.1) := by rw [List.map_map]; rfl
  have e2 : (nps.map fun p => (p.1, assign (.Name p.1 p.2) C.env)).map (·.2) = (nps.map fun p => (false, assign (.Name p.1 p.2) C.env)).map (·.2) := by rw [List.map_map, List.map_map]; rfl
  have := stores_rel (M := model C.g.prog C.g.w) (A := C.A) (E := E) ok (nps.map fun p => (p.1, assign (.Name p.1 p.2) C.env)) l vs S { s with heap := h' } Q (F.st (tk := s.toks) st) (hr.st st) (by rw [List.length_map, hl])
    (fun x hx v Q s hq => by obtain ⟨p, _, rfl⟩ := List.mem_map.mp hx; exact wpAny_assign_Name hq)
    (fun x hx' => by obtain ⟨p, hp, rfl⟩ := List.mem_map.mp hx'; exact hx p hp)
    (fun h'' tk F'' fk => k h'' tk (by rw [e1] at F''; exact F'') (FKeep.trans (.of st) (.refl _ _) fk))
  rw [hae, ← e2]
  exact this

theorem ExS_unpack2 {x y : Str} {px py tp pos : Pos} {k₀ : Nat} {e : Expr} (h : Ev C S e fun av => ∃ a b, av = .tup [a, b] ∧ Ψ .next ((S.set x a).set y b)) (hx : Stb C S x) (hy : Stb C S y)
    (hs : swapsWithSole [.Tuple [.Name x px, .Name y py] k₀ tp] e pos.line C.env = pure false := by rfl) (hw : swappedStores [.Tuple [.Name x px, .Name y py] k₀ tp] e C.env = pure none := by rfl) : ExS C S (.Assign [.Tuple [.Name x px, .Name y py] k₀ tp] e pos) Ψ := by
  refine ⟨fun ok s₀ X₀ β s Q p F k => ?_⟩
  refine PyProof.Rows.Assign_Tuple (h.go ok _ s _ _ (p.st F.keep) F.xinh F.relS fun av v h₁ t₁ st₁ rv hyp => ?_) hs hw
  obtain ⟨a, b, rfl, ψ⟩ := hyp
  obtain ⟨ad, vs, rfl, ht, hr⟩ := rv
  refine unpack_go (nps := [(x, px), (y, py)]) ok (F.st (tk := t₁) st₁) ht hr rfl (by intro z hz; simp at hz; rcases hz with rfl | rfl <;> assumption) rfl fun h' tk F' fk => ?_
  exact k .next .next _ β h' tk F' (FKeep.trans (.of st₁) (.refl _ _) fk) (.refl _ _) rfl ψ

theorem ExS_swap2 {x y : Str} {px py tp pos : Pos} {k₀ : Nat} {e : Expr} (h : Ev C S e fun av => ∃ a b, av = .tup [a, b] ∧ Ψ .next ((S.set y b).set x a)) (hx : Stb C S x) (hy : Stb C S y)
    (hs : swapsWithSole [.Tuple [.Name x px, .Name y py] k₀ tp] e pos.line C.env = pure false := by rfl) (hw : swappedStores [.Tuple [.Name x px, .Name y py] k₀ tp] e C.env = pure (some [x, y]) := by rfl) : ExS C S (.Assign [.Tuple [.Name x px, .Name y py] k₀ tp] e pos) Ψ := by
  refine ⟨fun ok s₀ X₀ β s Q p F k => ?_⟩
  refine PyProof.Rows.Assign_Tuple_swapped (names := [x, y]) (h.go ok _ s _ _ (p.st F.keep) F.xinh F.relS fun av v h₁ t₁ st₁ rv hyp => ?_) hs hw
  obtain ⟨a, b, rfl, ψ⟩ := hyp
  obtain ⟨ad, vs, rfl, ht, hr⟩ := rv
  have F₁ := F.st (tk := t₁) st₁
  have e2 : [x, y].length = vs.toArray.size := by rw [List.size_toArray, hr.length]; rfl
  rw [e2]
  refine wpAny_unpackItems_tuple (s := { s with heap := h₁, toks := t₁ }) ok.room.hh ht fun h' he => ?_
  have st₂ : StIn h₁ h' := ext_st he
  refine stores_rel ok [(y, fun v => bindName C.env y v), (x, fun v => bindName C.env x v)] [b, a] vs.reverse S _ _ (F₁.st (tk := t₁) st₂) (hr.st st₂).rev rfl (fun z hz v Q s hq => ?_) (fun z hz => ?_) fun h'' tk F'' fk => ?_
  · simp at hz; rcases hz with rfl | rfl <;> exact wpAny_bindName hq
  · simp at hz; rcases hz with rfl | rfl <;> assumption
  · exact k .next .next _ β h'' tk F'' (FKeep.trans (.of (st₁.trans st₂)) (.refl _ _) fk) (.refl _ _) rfl ψ

-- defs
theorem bindL_spec {kindOf : Str → Option NameKind} : ∀ (binds : List (Str × Value)) (m : Str → Option Value) (x : Str) (v : Value), (binds.map (·.1)).Nodup → binds.lookup x = some v → kindOf x = some .local → bindL kindOf binds m x = some v
  | (n, w) :: r, m, x, v, hnd, hl, hk => by
    rw [List.lookup_cons] at hl
    obtain ⟨hn, hr⟩ := List.nodup_cons.mp hnd
    unfold bindL
    cases hb : x == n with
    | true =>
      rw [hb] at hl; cases hl
      obtain rfl := beq_iff_eq.mp hb
      rw [if_pos hk]
      have skip : ∀ (r : List (Str × Value)) (m : Str → Option Value), x ∉ r.map (·.1) → bindL kindOf r m x = m x := by
        intro r
        induction r with
        | nil => intro m _; rfl
        | cons p r ih =>
          intro m hx
          obtain ⟨q, u⟩ := p
          simp only [List.map_cons, List.mem_cons, not_or] at hx
          unfold bindL
          rw [ih _ hx.2]
          split
          · simp [hx.1]
          · rfl
      rw [skip r _ hn]; simp
    | false => rw [hb] at hl; exact bindL_spec r _ x v hr hl hk
theorem bindC_spec {kindOf : Str → Option NameKind} : ∀ (binds : List (Str × Value)) (m : Str → Option Value) (x : Str) (v : Value), (binds.map (·.1)).Nodup → binds.lookup x = some v → kindOf x = some .cell → bindC kindOf binds m x = some v
  | (n, w) :: r, m, x, v, hnd, hl, hk => by
    rw [List.lookup_cons] at hl
    obtain ⟨hn, hr⟩ := List.nodup_cons.mp hnd
    unfold bindC
    cases hb : x == n with
    | true =>
      rw [hb] at hl; cases hl
      obtain rfl := beq_iff_eq.mp hb
      rw [if_neg (by rw [hk]; decide)]
      have skip : ∀ (r : List (Str × Value)) (m : Str → Option Value), x ∉ r.map (·.1) → bindC kindOf r m x = m x := by
        intro r
        induction r with
        | nil => intro m _; rfl
        | cons p r ih =>
          intro m hx
          obtain ⟨q, u⟩ := p
          simp only [List.map_cons, List.mem_cons, not_or] at hx
          unfold bindC
          rw [ih _ hx.2]
          split
          · rfl
          · simp [hx.1]
      rw [skip r _ hn]; simp
    | false => rw [hb] at hl; exact bindC_spec r _ x v hr hl hk

theorem lookup_zip {X : List Addr} {h : Heap} : ∀ {ns : List Str} {as : List AV} {vs : List Value} {x : Str} {a : AV}, RelVs X h as vs → (ns.zip as).lookup x = some a → ∃ v, (ns.zip vs).lookup x = some v ∧ RelV X h a v
  | [], _, _, _, _, _, e => by simp at e
  | n :: ns, [], _, _, _, _, e => by simp at e
  | n :: ns, b :: as, _, x, a, ⟨v, vs, rfl, rv, rr⟩, e => by
    rw [List.zip_cons_cons, List.lookup_cons] at e
    rw [List.zip_cons_cons, List.lookup_cons]
    cases hb : x == n with
    | true => rw [hb] at e; cases e; exact ⟨v, rfl, rv⟩
    | false => rw [hb] at e; exact lookup_zip rr e

/-- where the parameters lie -/
def parsOk (ns : List Str) (scope : Scope) : Bool := ns.all fun x => match scope.names.lookup x with
  | some .local => true
  | some .cell => ((cellsFrom 0 scope.names []).lookup x).isSome
  | _ => false

theorem cells_some {x : Str} : ∀ (names : List (Str × NameKind)) (n m : Nat) (acc acc' : List (Str × Addr)), ((acc.lookup x).isSome = (acc'.lookup x).isSome) → ((cellsFrom n names acc).lookup x).isSome = ((cellsFrom m names acc').lookup x).isSome
  | [], _, _, _, _, e => e
  | (y, k) :: r, n, m, acc, acc', e => by
    unfold cellsFrom
    split
    · refine cells_some r _ _ _ _ ?_
      rw [List.lookup_cons, List.lookup_cons]
      cases x == y with
      | true => rfl
      | false => exact e
    · exact cells_some r _ _ _ _ e

theorem parsOk_spec {ns : List Str} {scope : Scope} (h : parsOk ns scope = true) (n : Nat) {x : Str} (hx : x ∈ ns) : scope.names.lookup x = some .local ∨ (scope.names.lookup x = some .cell ∧ ((cellsFrom n scope.names []).lookup x).isSome = true) := by
  have := List.all_eq_true.mp h x hx
  cases hk : scope.names.lookup x with
  | none => rw [hk] at this; cases this
  | some k =>
    rw [hk] at this
    cases k with
    | «local» => exact .inl rfl
    | cell => exact .inr ⟨rfl, by rw [cells_some scope.names n 0 [] [] rfl]; exact this⟩
    | _ => cases this

/-- what a call of the def gives, by its body -/
theorem CallsV_of {g : GX} {n : Nat} {a : Addr} {ns : List Str} {body : List Stmt} {scope : Scope} {args : List AV} {Φ : AV → Prop}
    (hfd : ∀ h, PG g h → ∃ o d, h.get? a = some o ∧ o.data = .func d ∧ h.CodeRec d.code d.qualname ∧ d.body = .stmts body ∧ d.scope = scope ∧ d.closure = [] ∧ d.globals = mainGlobals ∧ d.builtins = builtinsNs ∧
      ∀ vs : List Value, vs.length = args.length → bindArgs d ⟨vs, []⟩ = pure (ns.zip vs))
    (hlen : ns.length = args.length) (hp : parsOk ns scope = true) (hnd : ns.Nodup) (hk : scope.kind = .function) (hgen : scope.isGenerator = false) (hco : scope.isCoroutine = false)
    (hbody : ∀ (A : Around) (L : Addr) (qual : Str) (code : Value), Ex ⟨g, A, newEnv scope L mainGlobals (cellsFrom (L + 1) scope.names []) qual (some a) code none builtinsNs, n⟩ ⟨ns.zip args, none⟩ body fun fl _ => match fl with
      | .ret v => Φ v
      | .next => Φ .none
      | _ => False) : CallsV g (n + 1) (.ref a) args Φ := by
  refine ⟨fun A X s vs Q E ro p xi rv k => ?_⟩
  obtain ⟨o, d, ho, hd, hcd, hdb, hds, hdc, hdg, hdbl, hbind⟩ := hfd _ p
  have hvl : vs.length = args.length := rv.length
  have hb := hbind vs hvl
  have hdep := ro.depth
  have hun := ro.units
  have hzip1 : ∀ x ∈ ns.zip vs, x.1 ∈ ns := fun x hx => (List.of_mem_zip (a := x.1) (b := x.2) hx).1
  have hmapz : (ns.zip vs).map (·.1) = ns := by
    rw [List.map_fst_zip]; omega
  refine wpAny_call (codeAny_call_cells (by omega) ho hd p.top.nolimit hcd hdb hb hdc (fun x hx => by rw [hds]; exact parsOk_spec hp _ (hzip1 x hx)) (fun s₁ ic => ?_) (by rw [hds]; exact hco) (by rw [hds]; exact hgen) (by rw [hds]; exact hk))
  generalize hL : s.heap.objs.size = L at ic
  have henv : callEnvC d L a = newEnv scope L mainGlobals (cellsFrom (L + 1) scope.names []) (d.qualname ++ ".<locals>.") (some a) d.code none builtinsNs := by
    unfold callEnvC; rw [hds, hdg, hdbl]
  rw [henv] at ic ⊢
  generalize d.qualname ++ ".<locals>." = qual at *
  obtain ⟨h₁, tk₁, hs₁⟩ := ic.toInCall.same
  subst hs₁
  have st₁ : StIn s.heap h₁ := ic.toInCall.keep
  obtain ⟨lfr, hlfr⟩ := ro.fr
  let C : CX := ⟨g, A.deeper (newEnv scope L mainGlobals (cellsFrom (L + 1) scope.names []) qual (some a) d.code none builtinsNs), newEnv scope L mainGlobals (cellsFrom (L + 1) scope.names []) qual (some a) d.code none builtinsNs, n⟩
  have ok : C.Ok := by
    refine ⟨⟨ro.hh, ?_, ?_, ⟨_, Around.frames_deeper hlfr⟩⟩, hk, rfl, rfl, ⟨_, lfr, Around.frames_deeper hlfr, hgen, hco, rfl, rfl⟩⟩
    · show A.depth + 1 + n + 110 < recursionLimit; omega
    · show A.units + 3 + 16 * n + 100 < cLine; omega
  have FS1 : FS C s X none ⟨ns.zip args, none⟩ { s with heap := h₁, toks := tk₁ } := by
    refine ⟨⟨_, _, ic⟩, ?_, trivial, xi⟩
    intro x av e
    obtain ⟨v, hv, rx⟩ := lookup_zip (rv.st st₁) e
    refine ⟨v, ?_, by simpa using rx⟩
    have hxn : x ∈ ns := hzip1 (x, v) (mem_of_lookup hv)
    rcases parsOk_spec hp (L + 1) hxn with h1 | ⟨h1, h2⟩
    · exact .inl ⟨h1, _, ic.toInCall.ns, bindL_spec _ _ x v (by rw [hmapz]; exact hnd) hv h1⟩
    · obtain ⟨c, hc⟩ := Option.isSome_iff_exists.mp h2
      refine .inr ⟨.inl h1, c, hc, ?_⟩
      have := ic.cell x c hc
      rw [bindC_spec _ _ x v (by rw [hmapz]; exact hnd) hv h1] at this
      exact this
  refine wpAny_mono ((hbody _ L qual d.code).go ok s X none _ _ p FS1 fun afl fl S' β' h' tk F' fk bv rf ψ => ?_) (fun _ _ x => x) fun _ _ x => x.elim
  have keep := F'.keep
  cases afl with
  | ret av => obtain ⟨v, rfl, rv'⟩ := rf; exact k av v h' tk keep rv' ψ
  | next => obtain rfl : fl = .next := rf; exact k .none .none h' tk keep rfl ψ
  | brk => exact ψ.elim
  | cont => exact ψ.elim

/-- a plain def of the text -/
theorem Calls_of {g : GX} {n : Nat} {f : Str} {params : Arguments} {pos : Pos} {ns : List Str} {body : List Stmt} {scope : Scope} {args : List AV} {Φ : AV → Prop}
    (hd : (⟨f, params, body, scope, pos⟩ : DefRec) ∈ recsOf g.p)
    (hbind : ∀ (vs : List Value) (pm cd doc : Value), vs.length = args.length → bindArgs (Calls.docDef f params body scope pm cd doc) ⟨vs, []⟩ = pure (ns.zip vs))
    (hlen : ns.length = args.length) (hp : parsOk ns scope = true) (hnd : ns.Nodup) (hk : scope.kind = .function) (hgen : scope.isGenerator = false) (hco : scope.isCoroutine = false)
    (hbody : ∀ (A : Around) (L a : Addr) (qual : Str) (code : Value), Ex ⟨g, A, newEnv scope L mainGlobals (cellsFrom (L + 1) scope.names []) qual (some a) code none builtinsNs, n⟩ ⟨ns.zip args, none⟩ body fun fl _ => match fl with
      | .ret v => Φ v
      | .next => Φ .none
      | _ => False) : Calls g (n + 1) f args Φ := by
  obtain ⟨h, T, _⟩ := g.inh
  obtain ⟨a, o, pm, code, doc, h1, _⟩ := T.fn _ hd
  have at_ : ∀ h, PG g h → ∃ o pm code doc, h.get? a = some o ∧ o.data = .func (Calls.docDef f params body scope pm code doc) ∧ h.CodeRec code f := by
    intro h p
    obtain ⟨a', o, pm, code, doc, h1', h2, h3, h4⟩ := p.top.fn _ hd
    rw [h1] at h1'; cases h1'
    exact ⟨o, pm, code, doc, h2, h3, h4⟩
  refine ⟨a, ⟨h1, fun h p => let ⟨o, pm, code, doc, q1, q2, _⟩ := at_ h p; ⟨o, _, q1, q2⟩⟩, ?_⟩
  refine CallsV_of (fun h p => ?_) hlen hp hnd hk hgen hco (fun A L qual code => hbody A L a qual code)
  obtain ⟨o, pm, code, doc, q1, q2, q3⟩ := at_ h p
  exact ⟨o, _, q1, q2, q3, rfl, rfl, rfl, rfl, rfl, fun vs hv => hbind vs pm code doc hv⟩
theorem FnIs_of {g : GX} {f : Str} {params : Arguments} {pos : Pos} {body : List Stmt} {scope : Scope} (hd : (⟨f, params, body, scope, pos⟩ : DefRec) ∈ recsOf g.p) : ∃ a, FnIs g f a := by
  obtain ⟨h, T, _⟩ := g.inh
  obtain ⟨a, o, pm, code, doc, h1, _⟩ := T.fn _ hd
  refine ⟨a, h1, fun h p => ?_⟩
  obtain ⟨a', o, pm, code, doc, h1', h2, h3, h4⟩ := p.top.fn _ hd
  rw [h1] at h1'; cases h1'
  exact ⟨o, _, h2, h3⟩
theorem law_end {l : OpenLaw} {cl : Str → Option Addr} {mean : ExcName → Option Value} {args : List WData} {s₁ s' : Shared} (hk : StIn s₁.heap s'.heap) (ho : s'.os = s₁.os) (hg : s'.gens = #[]) :
    GoodWG l.row.claim cl mean args s₁ (.ok (.ret (.bool true))) s' := by
  refine GoodW.toG ⟨.inl ⟨.bool true, .bool true, [], rfl, fun _ => rfl, .bool true, ?_, fun _ => ⟨.nil, fun _ h => nomatch h⟩⟩, hk, ho, hg⟩
  exact postW_of rfl (w_eq_bool (w_res rfl) w_lit) rfl

theorem law_go {l : OpenLaw} {g : GX} {cl : Str → Option Addr} {mean : ExcName → Option Value} {args : List WData} {s₁ : Shared} {fa la : Addr} {vs : List Value} {ns : List Int} {n : Nat} (hpr : g.prog = l.row.prog) (p : PG g s₁.heap) (hg : s₁.gens = #[])
    (hf : g.mg "law" = some (.ref fa)) (hL : s₁.heap.IsList la vs.toArray) (hI : IntsAre vs ns) (hn : n ≤ 400) (hc : Calls g n "law" [.lst (IL ns)] fun v => v = .bool true) :
    wpAny (model l.row.prog g.w) callerA (call (.ref fa) [.ref la]) (fun v s' => GoodWG l.row.claim cl mean args s₁ (.ok (.ret v)) s') (fun e s' => GoodWG l.row.claim cl mean args s₁ (.error e) s') s₁ := by
  obtain ⟨a, ⟨h1, _⟩, hc⟩ := hc
  rw [hf] at h1; cases h1
  rw [← hpr]
  refine hc.go callerA [] s₁ [.ref la] _ _ ⟨rfl, ?_, ?_, ⟨_, rfl⟩⟩ p (fun _ h => nomatch h) ⟨_, _, rfl, ⟨la, vs, rfl, by simp, hL, RelVs.of_ints hI⟩, rfl⟩ fun av v h' tk st rv e => ?_
  · show 1 + 300 + n + 110 < 1000; omega
  · show 4 + 16 * n + 100 < 9900; omega
  · subst e
    obtain rfl : v = .bool true := rv
    exact law_end st rfl hg
theorem ifT {c : Bool} {P Q : Prop} (h1 : c = true → P) (h2 : c = false → Q) : if c = true then P else Q := by cases c <;> simp_all
theorem ifD {p : Prop} [Decidable p] {P Q : Prop} (h1 : p → P) (h2 : ¬ p → Q) : if decide p = true then P else Q := ifT (fun h => h1 (of_decide_eq_true h)) (fun h => h2 (of_decide_eq_false h))
theorem ifDn {p : Prop} [Decidable p] {P Q : Prop} (h1 : ¬ p → P) (h2 : p → Q) : if (!decide p) = true then P else Q := ifT (fun h => h1 (by simpa using h)) (fun h => h2 (by simpa using h))
theorem ifE {a b : Int} {P Q : Prop} (h1 : a = b → P) (h2 : a ≠ b → Q) : if (a == b) = true then P else Q := ifT (fun h => h1 (by simpa using h)) (fun h => h2 (by simpa using h))
theorem ifN {a b : Int} {P Q : Prop} (h1 : a ≠ b → P) (h2 : a = b → Q) : if (a != b) = true then P else Q := ifT (fun h => h1 (by simpa using h)) (fun h => h2 (by simpa using h))
theorem IntMulOk.small_l {a b : Int} (h : a.natAbs < 2 ^ 62) : IntMulOk a b := IntMulOk.of_left (intBits_le_64 (by omega) (by omega))
theorem IntMulOk.small_r {a b : Int} (h : b.natAbs < 2 ^ 62) : IntMulOk a b := IntMulOk.of_right (intBits_le_64 (by omega) (by omega))

theorem boot_abs : bootBuiltins "abs" = some (.builtin "abs") := by decide +kernel
theorem boot_len : bootBuiltins "len" = some (.builtin "len") := by decide +kernel
theorem boot_divmod : bootBuiltins "divmod" = some (.builtin "divmod") := by decide +kernel
theorem boot_isinstance : bootBuiltins "isinstance" = some (.builtin "isinstance") := by decide +kernel
theorem boot_sum : bootBuiltins "sum" = some (.builtin "sum") := by decide +kernel
theorem boot_min : bootBuiltins "min" = some (.builtin "min") := by decide +kernel
theorem boot_max : bootBuiltins "max" = some (.builtin "max") := by decide +kernel
theorem boot_sorted : bootBuiltins "sorted" = some (.builtin "sorted") := by decide +kernel
theorem boot_range : bootBuiltins "range" = some (.type "range") := by decide +kernel
theorem boot_int : bootBuiltins "int" = some (.type "int") := by decide +kernel
theorem boot_str : bootBuiltins "str" = some (.type "str") := by decide +kernel
theorem boot_type : bootBuiltins "type" = some (.type "type") := by decide +kernel
theorem boot_bool : bootBuiltins "bool" = some (.type "bool") := by decide +kernel
section
variable {C : CX} {S : AS} {Φ : AV → Prop} {fp pos : Pos} {args : List Expr}
theorem Ev_abs (hx : C.env.kindOf "abs" = some .globalImplicit) (h : Evs C S args fun avs => CallB C (.builtin "abs") avs Φ) (ha : ∃ x r, starEach args C.env = (false, x) :: r ∧ (starEach args C.env).any (·.1) = false := by exact ⟨_, _, rfl, rfl⟩) :
    Ev C S (.Call (.Name "abs" fp) args [] pos) Φ := Ev_callB (C.g.nob _ (by decide)) boot_abs hx h ha
theorem Ev_len (hx : C.env.kindOf "len" = some .globalImplicit) (h : Evs C S args fun avs => CallB C (.builtin "len") avs Φ) (ha : ∃ x r, starEach args C.env = (false, x) :: r ∧ (starEach args C.env).any (·.1) = false := by exact ⟨_, _, rfl, rfl⟩) :
    Ev C S (.Call (.Name "len" fp) args [] pos) Φ := Ev_callB (C.g.nob _ (by decide)) boot_len hx h ha
theorem Ev_divmod (hx : C.env.kindOf "divmod" = some .globalImplicit) (h : Evs C S args fun avs => CallB C (.builtin "divmod") avs Φ) (ha : ∃ x r, starEach args C.env = (false, x) :: r ∧ (starEach args C.env).any (·.1) = false := by exact ⟨_, _, rfl, rfl⟩) :
    Ev C S (.Call (.Name "divmod" fp) args [] pos) Φ := Ev_callB (C.g.nob _ (by decide)) boot_divmod hx h ha
theorem Ev_isinstance (hx : C.env.kindOf "isinstance" = some .globalImplicit) (h : Evs C S args fun avs => CallB C (.builtin "isinstance") avs Φ) (ha : ∃ x r, starEach args C.env = (false, x) :: r ∧ (starEach args C.env).any (·.1) = false := by exact ⟨_, _, rfl, rfl⟩) :
    Ev C S (.Call (.Name "isinstance" fp) args [] pos) Φ := Ev_callB (C.g.nob _ (by decide)) boot_isinstance hx h ha
theorem Ev_sum (hx : C.env.kindOf "sum" = some .globalImplicit) (h : Evs C S args fun avs => CallB C (.builtin "sum") avs Φ) (ha : ∃ x r, starEach args C.env = (false, x) :: r ∧ (starEach args C.env).any (·.1) = false := by exact ⟨_, _, rfl, rfl⟩) :
    Ev C S (.Call (.Name "sum" fp) args [] pos) Φ := Ev_callB (C.g.nob _ (by decide)) boot_sum hx h ha
theorem Ev_min (hx : C.env.kindOf "min" = some .globalImplicit) (h : Evs C S args fun avs => CallB C (.builtin "min") avs Φ) (ha : ∃ x r, starEach args C.env = (false, x) :: r ∧ (starEach args C.env).any (·.1) = false := by exact ⟨_, _, rfl, rfl⟩) :
    Ev C S (.Call (.Name "min" fp) args [] pos) Φ := Ev_callB (C.g.nob _ (by decide)) boot_min hx h ha
theorem Ev_max (hx : C.env.kindOf "max" = some .globalImplicit) (h : Evs C S args fun avs => CallB C (.builtin "max") avs Φ) (ha : ∃ x r, starEach args C.env = (false, x) :: r ∧ (starEach args C.env).any (·.1) = false := by exact ⟨_, _, rfl, rfl⟩) :
    Ev C S (.Call (.Name "max" fp) args [] pos) Φ := Ev_callB (C.g.nob _ (by decide)) boot_max hx h ha
theorem Ev_sorted (hx : C.env.kindOf "sorted" = some .globalImplicit) (h : Evs C S args fun avs => CallB C (.builtin "sorted") avs Φ) (ha : ∃ x r, starEach args C.env = (false, x) :: r ∧ (starEach args C.env).any (·.1) = false := by exact ⟨_, _, rfl, rfl⟩) :
    Ev C S (.Call (.Name "sorted" fp) args [] pos) Φ := Ev_callB (C.g.nob _ (by decide)) boot_sorted hx h ha
theorem Ev_range (hx : C.env.kindOf "range" = some .globalImplicit) (h : Evs C S args fun avs => CallB C (.type "range") avs Φ) (ha : ∃ x r, starEach args C.env = (false, x) :: r ∧ (starEach args C.env).any (·.1) = false := by exact ⟨_, _, rfl, rfl⟩) :
    Ev C S (.Call (.Name "range" fp) args [] pos) Φ := Ev_callT (C.g.nob _ (by decide)) boot_range hx h ha
theorem Ev_int (hx : C.env.kindOf "int" = some .globalImplicit) (h : Evs C S args fun avs => CallB C (.type "int") avs Φ) (ha : ∃ x r, starEach args C.env = (false, x) :: r ∧ (starEach args C.env).any (·.1) = false := by exact ⟨_, _, rfl, rfl⟩) :
    Ev C S (.Call (.Name "int" fp) args [] pos) Φ := Ev_callT (C.g.nob _ (by decide)) boot_int hx h ha
theorem Ev_str (hx : C.env.kindOf "str" = some .globalImplicit) (h : Evs C S args fun avs => CallB C (.type "str") avs Φ) (ha : ∃ x r, starEach args C.env = (false, x) :: r ∧ (starEach args C.env).any (·.1) = false := by exact ⟨_, _, rfl, rfl⟩) :
    Ev C S (.Call (.Name "str" fp) args [] pos) Φ := Ev_callT (C.g.nob _ (by decide)) boot_str hx h ha
theorem Ev_type (hx : C.env.kindOf "type" = some .globalImplicit) (h : Evs C S args fun avs => CallB C (.type "type") avs Φ) (ha : ∃ x r, starEach args C.env = (false, x) :: r ∧ (starEach args C.env).any (·.1) = false := by exact ⟨_, _, rfl, rfl⟩) :
    Ev C S (.Call (.Name "type" fp) args [] pos) Φ := Ev_callT (C.g.nob _ (by decide)) boot_type hx h ha
theorem Ev_ty_int (hx : C.env.kindOf "int" = some .globalImplicit) (h : Φ (.ty "int")) : Ev C S (.Name "int" pos) Φ := Ev_boot (av := .ty "int") (C.g.nob _ (by decide)) boot_int hx (fun _ _ => rfl) h
theorem Ev_ty_bool (hx : C.env.kindOf "bool" = some .globalImplicit) (h : Φ (.ty "bool")) : Ev C S (.Name "bool" pos) Φ := Ev_boot (av := .ty "bool") (C.g.nob _ (by decide)) boot_bool hx (fun _ _ => rfl) h
end
theorem AS.le_of {S S' : AS} (h : ∀ p ∈ S'.vs, S.vs.lookup p.1 = some p.2) (ho : S.own = S'.own) : S.le S' := ⟨fun x av e => h (x, av) (mem_of_lookup e), ho⟩
-- one step of the walk
local macro_rules | `(tactic| walk_at "mw") => `(tactic| first
  | refine Ex_cons ?_
  | refine Ex_nil ?_
  | refine ExS_assign ?_ ⟨.inl rfl, by first | exact trivial | exact rfl⟩
  | refine ExS_assign ?_ ⟨.inr ⟨rfl, rfl⟩, by first | exact trivial | exact rfl⟩
  | refine ExS_return ?_
  | refine ExS_if ?_
  | refine ExS_swap2 ?_ ⟨.inl rfl, by first | exact trivial | exact rfl⟩ ⟨.inl rfl, by first | exact trivial | exact rfl⟩
  | refine ExS_unpack2 ?_ ⟨.inl rfl, by first | exact trivial | exact rfl⟩ ⟨.inl rfl, by first | exact trivial | exact rfl⟩
  | refine ExS_aug rfl ?_ ⟨.inl rfl, by first | exact trivial | exact rfl⟩
  | refine Ev_const_int ?_
  | refine Ev_const_bool ?_
  | refine Ev_const_str ?_
  | refine Ev_const_none ?_
  | refine Ev_name rfl ?_
  | refine Ev_bin ?_
  | refine Ev_una ?_
  | refine Ev_cmp ?_
  | refine Ev_tuple ?_
  | refine Ev_list ?_
  | refine Ev_ifexp ?_
  | refine Evs_cons ?_
  | refine Evs_nil ?_
  | refine Tst_cmp ?_
  | refine Tst_not ?_
  | refine Tst_boolop ?_
  | refine Tsts_and_cons ?_
  | refine Tsts_and_nil ?_
  | refine Tsts_or_cons ?_
  | refine Tsts_or_nil ?_
  | refine Bin_add ?_
  | refine Bin_sub ?_
  | refine Bin_mul (IntMulOk.of_left (by decide)) ?_
  | refine Bin_mul (IntMulOk.of_right (by decide)) ?_
  | refine Bin_and ?_
  | refine Bin_add_bool ?_
  | refine Una_neg ?_
  | refine Una_not ?_
  | refine Cmp_eq ?_
  | refine Cmp_ne ?_
  | refine Cmp_lt ?_
  | refine Cmp_le ?_
  | refine Cmp_gt ?_
  | refine Cmp_ge ?_
  | refine Trt_bool ?_
  | refine Trt_int ?_
  | refine Ev_abs rfl ?_
  | refine Ev_len rfl ?_
  | refine Ev_divmod rfl ?_
  | refine Ev_isinstance rfl ?_
  | refine Ev_sum rfl ?_
  | refine Ev_min rfl ?_
  | refine Ev_max rfl ?_
  | refine Ev_sorted rfl ?_
  | refine Ev_range rfl ?_
  | refine Ev_int rfl ?_
  | refine Ev_str rfl ?_
  | refine Ev_type rfl ?_
  | refine Ev_ty_int rfl ?_
  | refine Ev_ty_bool rfl ?_
  | refine CallB_abs ?_
  | refine CallB_divmod (by first | assumption | omega) ?_
  | refine Bin_fdiv (by first | assumption | omega | decide) ?_
  | refine Bin_mod (by first | assumption | omega | decide) ?_
  | refine Bin_shr (by first | assumption | omega | decide) ?_
  | refine CallB_len (by first | assumption | omega | decide) ?_
  | (refine ⟨_, _, rfl, ?_⟩)
  | refine CallB_isint ?_
  | refine CallB_isbool ?_
  | refine CallB_range1 ?_
  | refine CallB_range2 ?_
  | refine CallB_range3 (by decide) ?_
  | refine CallB_max ?_
  | refine CallB_min ?_
  | refine CallB_int ?_
  | refine CallB_sum ?_
  | refine IBin_add ?_
  | refine IBin_sub ?_
  | refine Tst_val ?_)
local macro_rules | `(tactic| walk_at "le") => `(tactic| (refine AS.le_of ?_ rfl; repeat (first | (refine List.forall_mem_cons.mpr ⟨rfl, ?_⟩) | exact List.forall_mem_nil _)))
variable {C : CX} {S : AS} {Φ : AV → Prop} {Ψ : AFl → AS → Prop}

/-- the frame of a comprehension -/
abbrev CX.comp (C : CX) (scope : Scope) (cl : List (Str × Addr)) (a : Addr) : CX := { C with env := compEnvC scope cl a C.env }
/-- a comprehension's tests -/
def CTst (C : CX) (S : AS) (ifs : List Expr) (b : Bool) : Prop := match ifs with
  | [] => b = true
  | [e] => Tst C S e fun c => c = b
  | _ => False

/-- what a comprehension takes from without -/
def Caps (C : CX) (S : AS) (scope : Scope) (cl : List (Str × Addr)) (x : Str) (caps : AM) : Prop :=
  ∀ p ∈ caps, S.vs.lookup p.1 = some p.2 ∧ C.env.kindOf p.1 = some .cell ∧ (relabel scope C.env).names.lookup p.1 = some .cell ∧ cl.lookup p.1 = C.env.cells.lookup p.1 ∧ (p.1 == x) = false

/-- the parts of a comprehension over ints -/
structure CompIn (C : CX) (S : AS) (scope : Scope) (cl : List (Str × Addr)) (x : Str) (caps : AM) (ifs : List Expr) (elt : Expr) (ns : List Int) (c : Int → Bool) (f : Int → Int) : Prop where
  capt : Caps C S scope cl x caps
  tests : ∀ n ∈ ns, ∀ a, CTst (C.comp scope cl a) ⟨(x, .int n) :: caps, none⟩ ifs (c n)
  elts : ∀ n ∈ ns, c n = true → ∀ a, Ev (C.comp scope cl a) ⟨(x, .int n) :: caps, none⟩ elt fun v => v = .int (f n)

theorem lookup_caps {x y : Str} {av : AV} {n : Int} {caps : AM} (e : ((x, AV.int n) :: caps).lookup y = some av) : (y = x ∧ av = .int n) ∨ ((y, av) ∈ caps) := by
  rw [List.lookup_cons] at e
  cases hb : y == x with
  | true => rw [hb] at e; cases e; exact .inl ⟨beq_iff_eq.mp hb, rfl⟩
  | false => rw [hb] at e; exact .inr (mem_of_lookup e)

theorem CX.Ok.comp (ok : C.Ok) {scope : Scope} {cl : List (Str × Addr)} {a : Addr} (hk : scope.kind = .function) : (C.comp scope cl a).Ok := ⟨ok.room, hk, ok.glob, ok.blt, ok.seer⟩

/-- the quiet parts, as the library wants them -/
theorem comp_quiet {scope : Scope} {cl : List (Str × Addr)} {x : Str} {caps : AM} {ifs : List Expr} {elt : Expr} {ns : List Int} {c : Int → Bool} {f : Int → Int} {X : List Addr} {h₁ : Heap} {o : Obj} {P : Nat → Value → Prop} {s₂ : Shared}
    (ok : C.Ok) (hk : scope.kind = .function) (hx : scope.names.lookup x = some .local) (hin : CompIn C S scope cl x caps ifs elt ns c f) (p : PG C.g h₁) (xi : XIn X h₁) (rs : RelS C.env X h₁ S) (hs₂ : s₂.heap = h₁.push o)
    (hP : ∀ i v, P i v → ∃ n t, ns[i]? = some n ∧ v = .int n t) :
    QuietOnC C.g.prog C.g.w C.A C.env scope cl x ifs elt [h₁.objs.size] P (fun v => match v with | .int n _ => c n | _ => false) (fun v y => ∃ n t u, v = .int n t ∧ y = .int (f n) u) s₂ := by
  have old : ∀ s₃ : Shared, (∀ b o, b ∉ [h₁.objs.size] → s₂.heap.get? b = some o → s₃.heap.get? b = some o) → StIn h₁ s₃.heap := fun s₃ hk b o' e => by
    refine hk b o' ?_ (by rw [hs₂]; exact Heap.get?_push_of_some _ e)
    intro hm
    have := Heap.lt_size e
    rw [List.mem_singleton.mp hm] at this
    exact Nat.lt_irrefl _ this
  have relS : ∀ (a : Addr) (n : Int) (t : Tok) (s₃ : Shared) (m₃ : Str → Option Value), StIn h₁ s₃.heap → s₃.heap.Ns a m₃ → m₃ x = some (.int n t) → RelS (C.comp scope cl a).env X s₃.heap ⟨(x, .int n) :: caps, none⟩ := by
    intro a n t s₃ m₃ st hn hm
    refine ⟨fun y av e => ?_, fun _ _ e => by cases e⟩
    rcases lookup_caps e with ⟨rfl, rfl⟩ | hmem
    · exact ⟨.int n t, .inl ⟨lookup_relabel_local hx, m₃, hn, hm⟩, ⟨t, rfl⟩⟩
    · obtain ⟨h1, h2, h3, h4, _⟩ := hin.capt _ hmem
      obtain ⟨v, hr, hv⟩ := rs.1 y av h1
      rcases hr with ⟨hk', _⟩ | ⟨_, c', hc', hcell⟩
      · have h2' : C.env.kindOf y = some .cell := h2
        rw [h2'] at hk'; cases hk'
      · exact ⟨v, .inr ⟨.inl h3, c', by rw [← hc']; exact h4, hcell.keeps st⟩, hv.st st⟩
  constructor
  · intro a i v s₃ m₃ E' ha hPv hn hm hkp _
    obtain ⟨n, t, hni, rfl⟩ := hP i v hPv
    have st := old s₃ hkp
    have hT := hin.tests n (List.mem_of_getElem? hni) a
    unfold CTst at hT
    split at hT
    · exact wpAny_tests_nil ⟨hT.symm, ⟨s₃.heap, s₃.toks, rfl, fun _ _ e => e⟩⟩
    · refine wpAny_tests_one (hT.go (ok.comp hk) X s₃ _ E' (p.st st) (xi.st st) (relS a n t s₃ m₃ st hn hm) fun b h' tk st' e => ⟨e, ⟨h', tk, rfl, st'⟩⟩)
    · exact hT.elim
  · intro a i v s₃ m₃ E' ha hPv hpv hn hm hkp _
    obtain ⟨n, t, hni, rfl⟩ := hP i v hPv
    have st := old s₃ hkp
    exact (hin.elts n (List.mem_of_getElem? hni) hpv a).go (ok.comp hk) X s₃ _ E' (p.st st) (xi.st st) (relS a n t s₃ m₃ st hn hm) fun av w h' tk st' rv e => by
      subst e
      obtain ⟨u, rfl⟩ := rv
      exact ⟨⟨n, t, u, rfl, rfl⟩, ⟨h', tk, rfl, st'⟩⟩

theorem comp_ends {ns : List Int} {c : Int → Bool} {f : Int → Int} {P : Nat → Value → Prop} {vs ys : List Value} (hP : ∀ i v, P i v → ∃ n t, ns[i]? = some n ∧ v = .int n t) (hlen : vs.length = ns.length) (hvs : ∀ (j : Nat) v, vs[j]? = some v → P j v)
    (hF : Paired (fun v y => ∃ n t u, v = Value.int n t ∧ y = Value.int (f n) u) (vs.filter fun v => match v with | .int n _ => c n | _ => false) ys) : IntsAre ys ((ns.filter c).map f) := by
  have hall : ∀ v, v ∈ vs → ∃ a t, v = Value.int a t := fun v hv => by
    obtain ⟨j, hj⟩ := List.mem_iff_getElem?.mp hv
    obtain ⟨n, t, _, e⟩ := hP j v (hvs j v hj)
    exact ⟨n, t, e⟩
  obtain ⟨h1, h2⟩ := paired_ints c f vs ys hall hF
  have hI : ∀ (ns : List Int) (vs : List Value), vs.length = ns.length → (∀ (j : Nat) v, vs[j]? = some v → ∃ n t, ns[j]? = some n ∧ v = .int n t) → IntsAre vs ns := by
    intro ns
    induction ns with
    | nil => intro vs hl _; rw [List.length_eq_zero_iff.mp hl]; exact .nil
    | cons n ns ih =>
      intro vs hl hv
      cases vs with
      | nil => simp at hl
      | cons v vs =>
        obtain ⟨n', t, e1, e2⟩ := hv 0 v rfl
        obtain rfl : n = n' := by simpa using e1
        rw [e2]
        exact .cons n t (ih vs (by simpa using hl) fun j w hw => by simpa using hv (j + 1) w (by simpa using hw))
  have hvI := hI ns vs hlen fun j v hj => hP j v (hvs j v hj)
  rw [hvI.numsOf] at h2
  have hyI : ∀ ys : List Value, (∀ y, y ∈ ys → ∃ b u, y = Value.int b u) → IntsAre ys (numsOf ys) := by
    intro ys
    induction ys with
    | nil => intro _; exact .nil
    | cons y ys ih =>
      intro hy
      obtain ⟨b, u, rfl⟩ := hy y List.mem_cons_self
      exact .cons b u (ih fun z hz => hy z (List.mem_cons_of_mem _ hz))
  rw [← h2]
  exact hyI ys h1

theorem itr_ints {X : List Addr} {ns : List Int} {I : Addr} {h₀ : Heap} {fp : List Addr} {P : Nat → Value → Prop} {St : Nat → Heap → Prop} (it : Itr C X (IL ns) I h₀ fp P St) : ∀ i v, P i v → ∃ n t, ns[i]? = some n ∧ v = .int n t := by
  intro i v hP
  obtain ⟨av, h1, h2⟩ := it.item i v hP
  rw [List.getElem?_map] at h1
  cases hn : ns[i]? with
  | none => rw [hn] at h1; cases h1
  | some n =>
    rw [hn] at h1; cases h1
    obtain ⟨t, rfl⟩ := h2
    exact ⟨n, t, rfl, rfl⟩

/-- a list comprehension over ints -/
theorem Ev_comp {elt iter : Expr} {x : Str} {px pos : Pos} {ifs : List Expr} {scope : Scope} {cl : List (Str × Addr)} (caps : AM) (c : Int → Bool) (f : Int → Int)
    (hclos : closureFor scope C.env = pure cl)
    (h : Ev C S iter fun av => ∃ ns : List Int, Items av (IL ns) ∧ ns.length ≤ 2 ^ 20 ∧ CompIn C S scope cl x caps ifs elt ns c f ∧ Φ (.lst (IL ((ns.filter c).map f))))
    (hcell : ∀ y ∈ scope.names, y.2 ≠ .cell := by decide) (hkind : scope.kind = .function := by rfl)
    (hnames : ∀ y ∈ scope.names, y.2 = .local → scope.names.lookup y.1 = some .local := by decide) (hx : scope.names.lookup x = some .local := by rfl)
    (hs : ∀ x, foldedSetIterable iter C.env x = pure x := by intro _; rfl) : Ev C S (.ListComp elt [⟨.Name x px, iter, ifs, 0⟩] scope pos) Φ := by
  refine ⟨fun ok X s Q E p xi rs k => ?_⟩
  refine wpAny_ListComp_free (fun v => match v with | .int n _ => c n | _ => false) (fun v y => ∃ n t u, v = .int n t ∧ y = .int (f n) u) hclos hcell hkind hnames hx
    (h.go ok X s _ E p xi rs fun av v h₁ t₁ st₁ rv hyp => ?_) hs
  obtain ⟨ns, hit, hlen, hin, φ⟩ := hyp
  refine iter_go ok hit rv fun fp P St o itr hfree => ?_
  have hP := itr_ints itr
  have hI : St 0 (h₁.push o) := itr.start
  have st₂ : StIn s.heap (h₁.push o) := st₁.trans (StIn.push _ _)
  refine ⟨h₁.objs.size, fp, [h₁.objs.size], (IL ns).length, P, St, rfl, itr.walk, ?_, hI, ?_, comp_quiet (s₂ := { s with heap := h₁.push o, toks := t₁ }) ok hkind hx hin (p.st st₁) (xi.st st₁) (rs.st st₁) rfl hP, fun D h' tk ys vs hD hl hpl hvl hvP hF hkp => ?_⟩
  · rw [List.length_map, sizeLine_eq]; omega
  · intro b hb
    rcases itr.fps b hb with rfl | ⟨_, o', ho', _⟩ | ⟨o', ho', _⟩
    · show h₁.objs.size < (h₁.push o).objs.size
      rw [Heap.size_push]; exact Nat.lt_succ_self _
    · exact Heap.lt_size ho'
    · exact Heap.lt_size ho'
  · have stE : StIn s.heap h' := fun b o' e => hkp b o' (fun hm => by
      have h2 := Heap.lt_size (st₁ _ _ e)
      rw [List.mem_singleton.mp hm] at h2
      exact Nat.lt_irrefl _ h2) (st₂ _ _ e)
    have hi := comp_ends (ys := ys.toList) hP (by rw [hvl, List.length_map]) hvP hF
    exact k (.lst (IL ((ns.filter c).map f))) _ h' tk stE ⟨D, ys.toList, rfl, (xi.st st₂).none hD, hl, RelVs.of_ints hi⟩ φ

/-- the same, stored in a name at once (the stores exchanged) -/
theorem ExS_compAssign {elt iter : Expr} {x y : Str} {px py pos spos : Pos} {ifs : List Expr} {scope : Scope} {cl : List (Str × Addr)} (caps : AM) (c : Int → Bool) (f : Int → Int)
    (hclos : closureFor scope C.env = pure cl)
    (h : Ev C S iter fun av => ∃ ns : List Int, Items av (IL ns) ∧ ns.length ≤ 2 ^ 20 ∧ CompIn C S scope cl x caps ifs elt ns c f ∧ Ψ .next (S.set y (.lst (IL ((ns.filter c).map f)))))
    (hy : C.env.kindOf y = some .local) (hoff : S.off y)
    (hsw : swapsWith (.ListComp elt [⟨.Name x px, iter, ifs, 0⟩] scope pos) (some (.Name y py)) spos.line C.env = pure true := by rfl)
    (hcell : ∀ y ∈ scope.names, y.2 ≠ .cell := by decide) (hkind : scope.kind = .function := by rfl)
    (hnames : ∀ y ∈ scope.names, y.2 = .local → scope.names.lookup y.1 = some .local := by decide) (hx : scope.names.lookup x = some .local := by rfl)
    (hs : ∀ x, foldedSetIterable iter C.env x = pure x := by intro _; rfl) : ExS C S (.Assign [.Name y py] (.ListComp elt [⟨.Name x px, iter, ifs, 0⟩] scope pos) spos) Ψ := by
  refine ⟨fun ok s₀ X₀ β s Q p F k => ?_⟩
  refine wpAny_Assign_ListComp_free (fun v => match v with | .int n _ => c n | _ => false) (fun v y => ∃ n t u, v = .int n t ∧ y = .int (f n) u) hsw hclos hcell hkind hnames hx hy (by rw [ok.kind]; rfl)
    (h.go ok _ s _ _ (p.st F.keep) F.xinh F.relS fun av v h₁ t₁ st₁ rv hyp => ?_) hs
  obtain ⟨ns, hit, hlen, hin, ψ⟩ := hyp
  refine iter_go ok hit rv fun fp P St o itr hfree => ?_
  have hP := itr_ints itr
  have hI : St 0 (h₁.push o) := itr.start
  have st₂ : StIn s.heap (h₁.push o) := st₁.trans (StIn.push _ _)
  have F₂ := F.st (tk := t₁) st₂
  obtain ⟨m, cm, ic⟩ := F₂.call
  have hLlt : C.env.locals < h₁.objs.size := by
    obtain ⟨m', cm', ic'⟩ := (F.st (tk := t₁) st₁).call
    exact ic'.toInCall.ns.lt
  refine ⟨h₁.objs.size, fp, [h₁.objs.size], (IL ns).length, P, St, m, rfl, itr.walk, ?_, hI, ?_, ?_, ic.toInCall.ns, comp_quiet (s₂ := { s with heap := h₁.push o, toks := t₁ }) ok hkind hx hin ((p.st F.keep).st st₁) (F.xinh.st st₁) (F.relS.st st₁) rfl hP, fun D h' tk ys vs hD hl hpl hvl hvP hF hns hkp => ?_⟩
  · rw [List.length_map, sizeLine_eq]; omega
  · intro b hb
    rcases itr.fps b hb with rfl | ⟨_, o', ho', _⟩ | ⟨o', ho', _⟩
    · show h₁.objs.size < (h₁.push o).objs.size
      rw [Heap.size_push]; exact Nat.lt_succ_self _
    · exact Heap.lt_size ho'
    · exact Heap.lt_size ho'
  · intro hm; rw [List.mem_singleton.mp hm] at hLlt; exact Nat.lt_irrefl _ hLlt
  · have hi := comp_ends (ys := ys.toList) hP (by rw [hvl, List.length_map]) hvP hF
    have kp : ∀ b o', b ≠ C.env.locals → s.heap.get? b = some o' → h'.get? b = some o' := fun b o' hb e => hkp b o' hb (fun hm => by
      have h2 := Heap.lt_size (st₁ _ _ e)
      rw [List.mem_singleton.mp hm] at h2
      exact Nat.lt_irrefl _ h2) (st₂ _ _ e)
    have valL : ∀ a o, isVal o → s.heap.get? a = some o → a ≠ C.env.locals := by
      rintro a o hv e rfl
      obtain ⟨m, o', es, ep, ho', hd, _⟩ := F.ffr.loc
      rw [e] at ho'; cases ho'
      rcases hv with ⟨xs, n, q⟩ | ⟨_, fs, q⟩ <;> rw [hd] at q <;> cases q
    have vk : ∀ X, VKeep X s.heap h' := fun X => ⟨fun a o _ hv e => kp a o (valL a o hv e) e, fun a o hv _ e => kp a o (valL a o hv e) e⟩
    obtain ⟨m₀, cm₀, ic₀⟩ := F.call
    have hm : m = m₀ := Ns.uniq ic.toInCall.ns (ic₀.toInCall.ns.keeps st₂)
    subst hm
    have hrd : ∀ z w, (z == y) = false → Rd C.env s.heap z w → Rd C.env h' z w := by
      rintro z w hz (⟨hk, m', hn, hw⟩ | ⟨hk, c', hc', hw⟩)
      · refine .inl ⟨hk, _, hns, ?_⟩
        rw [Ns.uniq hn ic₀.toInCall.ns] at hw
        show (if z = y then some (Value.ref D) else m z) = some w
        rw [if_neg (by intro e; rw [e] at hz; simp at hz)]; exact hw
      · obtain ⟨oc, hoc, hdc⟩ := hw
        exact .inr ⟨hk, c', hc', oc, kp _ _ (Nat.ne_of_gt (ic₀.above z c' (mem_of_lookup hc'))) hoc, hdc⟩
    have hDn : s.heap.get? D = none := by
      cases e : s.heap.get? D with
      | none => rfl
      | some o' => have hD' : (h₁.push o).get? D = none := hD; rw [st₂ _ _ e] at hD'; cases hD'
    refine k .next .next _ β h' tk ⟨⟨_, cm₀, ⟨⟨?_, hns, fun b o' e => kp b o' (Nat.ne_of_lt (Nat.lt_of_lt_of_le (Heap.lt_size e) ic₀.toInCall.fresh)) (ic₀.toInCall.keep b o' e), ic₀.toInCall.fresh⟩, fun z a e => ?_, ic₀.apart, ic₀.above⟩⟩, ?_, ?_, F.xin⟩
      (fun a o' h1 _ _ e => kp a o' h1 e) (.refl _ _) rfl ψ
    · obtain ⟨h₀, t₀, e⟩ := F.same
      exact ⟨h', tk, by rw [e]⟩
    · obtain ⟨oc, hoc, hdc⟩ := ic₀.cell z a e
      exact ⟨oc, kp _ _ (Nat.ne_of_gt (ic₀.above z a (mem_of_lookup e))) hoc, hdc⟩
    · intro z aw e
      simp only [AS.set, List.lookup_cons] at e
      cases hb : z == y with
      | true =>
        rw [hb] at e; cases e
        rw [beq_iff_eq.mp hb]
        exact ⟨.ref D, .inl ⟨hy, _, hns, by simp⟩, ⟨D, ys.toList, rfl, F.xinh.none hDn, hl, RelVs.of_ints hi⟩⟩
      | false =>
        rw [hb] at e
        obtain ⟨w, h1, h2⟩ := F.vars z aw e
        exact ⟨w, hrd z w hb h1, h2.keep (vk _)⟩
    · have h := F.own
      show OwnOk C s₀ X₀ h' S.own β
      cases ho : S.own with
      | none => rw [ho] at h; cases β with | none => trivial | some _ => exact h
      | some q =>
        obtain ⟨z, l⟩ := q
        rw [ho] at h
        cases β with
        | none => exact h
        | some b =>
          obtain ⟨⟨vs, ow⟩, h1⟩ := h
          unfold AS.off at hoff
          rw [ho] at hoff
          obtain ⟨n, hb⟩ := ow.lst
          exact ⟨⟨vs, hrd z _ hoff ow.rd, ow.inX, ⟨n, kp _ _ (valL _ _ (.inl ⟨_, n, rfl⟩) hb) hb⟩, ow.rel.keep (vk _)⟩, h1⟩
variable {C : CX} {S : AS} {Φ : AV → Prop} {Ψ : AFl → AS → Prop}

theorem setItem_neg {prog : Program} {w : World} {A : Around} {E : Value → Shared → Prop} {s : Shared} {l : Addr} {items : Array Value} {k : Int} {t : Tok} {v : Value} {Q : Unit → Shared → Prop} (hl : s.heap.PlainList l items)
    (h0 : k < 0) (h1 : -(items.size : Int) ≤ k) (hfit : -(2 ^ 63) ≤ k)
    (hQ : ∀ h', h'.PlainList l (items.setIfInBounds (k + items.size).toNat v) → Heap.SameBut l s.heap h' → Q () { s with heap := h' }) : wpAny (model prog w) A (setItem (.ref l) (.int k t) v) Q E s := by
  have hl' := hl.isList
  obtain ⟨ne, ho⟩ := id hl
  have hd : ({ cls := .type "list", data := .seq items ne } : Obj).data = .seq items ne := rfl
  unfold setItem
  try with_reducible refine wpAny_holding ?_
  first | refine wpAny_bind (wpAny_pure ?_) | skip
  refine wpAny_bind (wpAny_sequenceKey hl'.typeIs (by decide) ?_)
  refine wpAny_bind (wpAny_callSpecial?_slot (name := Str.ofString "__setitem__") hl'.typeIs slot_list_setitem
    (wpAny_call_entry slot_list_setitem hl'.typeIs entry_list_setitem ?_ (args_list_setitem _ _ _)))
  show wpAny _ _ (Builtin.List.listSubscript? (.int k t) >>= _) _ _ s
  refine wpAny_bind (wpAny_listSubscript_int (fitsIndex_neg h0 hfit) ?_)
  clear hfit
  have hidx := seqIndex_neg h0 h1
  have hj : (k + items.size).toNat < items.size := by omega
  generalize (k + items.size).toNat = j at *
  obtain ⟨j', rfl⟩ : ∃ j : Nat, k = Int.negSucc j := by
    cases k with
    | ofNat n => exact absurd h0 (Int.not_lt.mpr (Int.natCast_nonneg n))
    | negSucc n => exact ⟨n, rfl⟩
  show wpAny _ _ ((Builtin.List.listItems (.ref l) >>= fun xs => pure ((seqIndex? (Int.negSucc j') xs.size).bind fun i => xs[i]?.map (i, ·))) >>= _) _ _ s
  refine wpAny_bind (wpAny_bind ?_)
  show wpAny _ _ (seqItems? (.ref l) >>= _) _ _ s
  refine wpAny_bind (wpAny_seqItems ho hd (wpAny_pure (wpAny_pure ?_)))
  rw [hidx]
  have hx' : items[j]? = some items[j] := Array.getElem?_eq_getElem hj
  simp only [Option.bind_some, hx', Option.map_some]
  show wpAny _ _ (setSeqItemAt l j v >>= _) _ _ s
  have hfin : (s.heap.update l (Obj.mapSeq (·.setIfInBounds j v))).PlainList l (items.setIfInBounds j v) := ⟨_, Heap.get?_update_self _ ho rfl⟩
  refine wpAny_bind (wpAny_setSeqItemAt ho hd ?_)
  first
    | exact wpAny_bind (wpAny_pure (wpAny_pure ⟨.none, rfl, wpAny_pure (hQ _ hfin (Heap.SameBut.update ..))⟩))
    | exact wpAny_pure ⟨.none, rfl, wpAny_pure (hQ _ hfin (Heap.SameBut.update ..))⟩

/-- a store of a name, as it stands -/
theorem store_raw {s₀ s : Shared} {x : Str} {v : Value} {M : Model} {A : Around} {Q : Unit → Shared → Prop} {E : Value → Shared → Prop} (ok : C.Ok) (ic : ∃ m cm, InCallC s₀ C.env.locals m C.env.cells cm s)
    (hx : C.env.kindOf x = some .local ∨ (C.env.kindOf x = some .cell ∧ (C.env.cells.lookup x).isSome = true))
    (k : ∀ (h' : Heap) (tk : Nat), (∃ m cm, InCallC s₀ C.env.locals m C.env.cells cm { s with heap := h', toks := tk }) → (∀ β, FKeep C β s.heap h') → (∀ a o, isVal o → s.heap.get? a = some o → h'.get? a = some o) → Rd C.env h' x v → (∀ y w, (y == x) = false → Rd C.env s.heap y w → Rd C.env h' y w) → Q () { s with heap := h', toks := tk }) :
    wpAny M A (storeName C.env x v) Q E s := by
  obtain ⟨m, cm, c⟩ := ic
  have valL : ∀ a o, isVal o → s.heap.get? a = some o → a ≠ C.env.locals := by
    rintro a o hv e rfl
    obtain ⟨o', es, ep, ho', hd, _⟩ := c.toInCall.ns
    rw [e] at ho'; cases ho'
    rcases hv with ⟨xs, n, q⟩ | ⟨_, fs, q⟩ <;> rw [hd] at q <;> cases q
  have valC : ∀ a o, isVal o → s.heap.get? a = some o → ∀ x, C.env.cells.lookup x ≠ some a := by
    intro a o hv e x hx
    obtain ⟨o', ho', hd⟩ := c.cell x a hx
    rw [e] at ho'; cases ho'
    rcases hv with ⟨xs, n, q⟩ | ⟨_, fs, q⟩ <;> rw [hd] at q <;> cases q
  rcases hx with hl | ⟨hl, hc⟩
  · refine wpAny_storeName_local hl c.toInCall.ns (fun h' hn' hs' => ?_) (by rw [ok.kind]; rfl)
    refine k h' _ ⟨_, cm, ⟨⟨?_, hn', fun b o e => ?_, c.toInCall.fresh⟩, fun k' c' hc' => ?_, c.apart, c.above⟩⟩ ?_ ?_ (.inl ⟨hl, _, hn', by simp⟩) ?_
    · obtain ⟨h₁, tk, e⟩ := c.toInCall.same
      exact ⟨h', _, by rw [e]⟩
    · exact hs'.extBut b o (Nat.ne_of_lt (Nat.lt_of_lt_of_le (Heap.lt_size e) c.toInCall.fresh)) (c.toInCall.keep b o e)
    · exact (c.cell k' c' hc').sameBut hs' (Nat.ne_of_gt (c.above k' c' (mem_of_lookup hc')))
    · exact fun _ a o h1 _ _ e => hs'.extBut a o h1 e
    · exact fun a o hv e => hs'.extBut a o (valL a o hv e) e
    · rintro y w hy (⟨hk, m', hn, hw⟩ | ⟨hk, c', hc', hw⟩)
      · refine .inl ⟨hk, _, hn', ?_⟩
        rw [Ns.uniq hn c.toInCall.ns] at hw
        show (if y = x then some v else m y) = some w
        rw [if_neg (by intro e; rw [e] at hy; simp at hy)]; exact hw
      · exact .inr ⟨hk, c', hc', hw.sameBut hs' (Nat.ne_of_gt (c.above y c' (mem_of_lookup hc')))⟩
  · obtain ⟨cc, hc⟩ := Option.isSome_iff_exists.mp hc
    have hLc := c.above x cc (mem_of_lookup hc)
    refine wpAny_storeName_cell ok.kind hl hc (c.cell x cc hc) fun h' hc' hs' => ?_
    refine k h' s.toks ⟨m, (fun y => if y = x then some v else cm y), ⟨⟨?_, c.toInCall.ns.sameBut hs' (Nat.ne_of_lt hLc), fun b o e => ?_, c.toInCall.fresh⟩, fun k' c' hk' => ?_, c.apart, c.above⟩⟩ ?_ ?_ (.inr ⟨.inl hl, cc, hc, hc'⟩) ?_
    · obtain ⟨h₁, tk, e⟩ := c.toInCall.same
      exact ⟨h', s.toks, by rw [e]⟩
    · exact hs'.extBut b o (Nat.ne_of_lt (Nat.lt_trans (Nat.lt_of_lt_of_le (Heap.lt_size e) c.toInCall.fresh) hLc)) (c.toInCall.keep b o e)
    · by_cases hkn : k' = x
      · subst hkn
        rw [hc] at hk'; cases hk'
        simpa using hc'
      · rw [if_neg hkn]
        exact (c.cell k' c' hk').sameBut hs' fun e => hkn (name_of_addr c.apart (mem_of_lookup hk') (e ▸ mem_of_lookup hc))
    · exact fun _ a o _ h2 _ e => hs'.extBut a o (fun q => h2 x (q ▸ hc)) e
    · exact fun a o hv e => hs'.extBut a o (fun q => valC a o hv e x (q ▸ hc)) e
    · rintro y w hy (⟨hk, m', hn, hw⟩ | ⟨hk, c', hc'', hw⟩)
      · exact .inl ⟨hk, m', hn.sameBut hs' (Nat.ne_of_lt hLc), hw⟩
      · refine .inr ⟨hk, c', hc'', hw.sameBut hs' fun e => ?_⟩
        have := name_of_addr c.apart (mem_of_lookup hc'') (e ▸ mem_of_lookup hc)
        rw [this] at hy; simp at hy

/-- x = [..]: an own list -/
theorem ExS_newOwn {x : Str} {px pos pl : Pos} {es : List Expr} (h : Evs C S es fun l => Ψ .next ⟨S.vs, some (x, l)⟩) (ho : S.own = none) (hl : S.vs.lookup x = none)
    (hx : C.env.kindOf x = some .local ∨ (C.env.kindOf x = some .cell ∧ (C.env.cells.lookup x).isSome = true)) (hsz : es.length ≤ 1000 := by decide)
    (hs : swapsWith (.List es pl) (some (.Name x px)) pos.line C.env = pure false := by rfl) : ExS C S (.Assign [.Name x px] (.List es pl) pos) Ψ := by
  refine ⟨fun ok s₀ X₀ β s Q p F k => ?_⟩
  have hβ : β = none := by
    have h1 := F.own; rw [ho] at h1
    cases β with | none => rfl | some _ => exact h1.elim
  subst hβ
  refine wpAny_Assign_Name (PyProof.Rows.List_ (h.go ok pl _ s _ _ (p.st F.keep) F.xinh F.relS fun avs vs h₁ t₁ st₁ r hlen ψ => ?_)) hs
  have F₁ := F.st (tk := t₁) st₁
  refine wpAny_newObj_type ?_ (by show vs.toArray.size ≤ sizeLine; rw [List.size_toArray, r.length, hlen, sizeLine_eq]; omega)
  generalize hob : ({ cls := .type "list", dict := none, data := .seq vs.toArray } : Obj) = ob
  have hget : (h₁.push ob).get? h₁.objs.size = some ob := by rw [← hob]; exact Heap.get?_push_size _ rfl
  have hnone : h₁.get? h₁.objs.size = none := by
    cases e : h₁.get? h₁.objs.size with
    | none => rfl
    | some o => exact absurd (Heap.lt_size e) (Nat.lt_irrefl _)
  have st₂ : StIn h₁ (h₁.push ob) := StIn.push _ _
  generalize hb : h₁.objs.size = b at *
  have F₂ := F₁.st (tk := t₁) st₂
  refine store_raw (s := { s with heap := h₁.push ob, toks := t₁ }) ok F₂.call hx fun h' tk hc fk hk hr hy => ?_
  have vk : ∀ X, VKeep X (h₁.push ob) h' := fun X => ⟨fun a o _ hv e => hk a o hv e, fun a o hv _ e => hk a o hv e⟩
  have hbs : s.heap.get? b = none := by
    cases e : s.heap.get? b with
    | none => rfl
    | some o => rw [st₁ _ _ e] at hnone; cases hnone
  have hs0 : s₀.heap.objs.size ≤ b := by
    obtain ⟨m, cm, c⟩ := F₁.call
    rw [← hb]
    exact Nat.le_trans c.toInCall.fresh (Nat.le_of_lt c.toInCall.ns.lt)
  refine k .next .next _ (some b) h' tk ⟨hc, ?_, ?_, F.xin⟩ ?_ ?_ rfl ψ
  · intro y aw e
    obtain ⟨w, h1, h2⟩ := F₁.vars y aw e
    have hyx : (y == x) = false := by
      cases hq : y == x with
      | false => rfl
      | true => rw [beq_iff_eq.mp hq, hl] at e; cases e
    exact ⟨w, hy y w hyx (h1.st st₂), ((RelV.more hnone aw w h2).st st₂).keep (vk _)⟩
  · refine ⟨⟨vs, hr, by simp, ?_, ?_⟩, hs0⟩
    · exact ⟨0, hk _ _ (.inl ⟨vs.toArray, 0, rfl⟩) (by rw [hget, ← hob])⟩
    · exact ((RelVs.more hnone avs vs (by simpa using r)).st st₂).keep (vk _)
  · exact FKeep.trans (.of (st₁.trans st₂)) (.refl _ _) (fk none)
  · intro c hc'
    cases hc'
    exact .inr hbs

/-- the own list is no more changed -/
theorem FS.freeze {s₀ s : Shared} {X₀ : List Addr} {β : Option Addr} {x : Str} {l : List AV} (F : FS C s₀ X₀ β S s) (ho : S.own = some (x, l)) : FS C s₀ X₀ none ⟨(x, .lst l) :: S.vs, none⟩ s := by
  have h := F.own
  rw [ho] at h
  cases β with
  | none => exact h.elim
  | some b =>
    obtain ⟨⟨vs, o⟩, hb⟩ := h
    have hX : b ∉ X₀ := fun q => by
      obtain ⟨ob, hob⟩ := Option.isSome_iff_exists.mp (F.xin b q)
      exact absurd (Heap.lt_size hob) (Nat.not_lt.mpr hb)
    refine ⟨F.call, ?_, trivial, F.xin⟩
    intro y aw e
    rw [List.lookup_cons] at e
    cases hq : y == x with
    | true =>
      rw [hq] at e; cases e
      rw [beq_iff_eq.mp hq]
      exact ⟨.ref b, o.rd, ⟨b, vs, rfl, by simpa using hX, o.lst.isList, o.rel.less fun _ hp => List.mem_cons_of_mem _ (by simpa using hp)⟩⟩
    | false =>
      rw [hq] at e
      obtain ⟨w, h1, h2⟩ := F.vars y aw e
      exact ⟨w, h1, h2.less fun _ hp => List.mem_append_right _ (by simpa using hp)⟩
theorem Ex.freeze {st : List Stmt} {x : Str} {l : List AV} (ho : S.own = some (x, l)) (h : Ex C ⟨(x, .lst l) :: S.vs, none⟩ st Ψ) : Ex C S st Ψ :=
  ⟨fun ok s₀ X₀ β s Q p F k => h.go ok s₀ X₀ none s Q p (F.freeze ho) fun afl fl S' β' h' tk F' fk bv rf ψ =>
    k afl fl S' β' h' tk F' (fun a o h1 h2 _ e => fk a o h1 h2 (by simp) e) (fun b e => .inr ((bv b e).resolve_left (by simp))) rf ψ⟩

-- reads of the own list
theorem load_own {M : Model} {A : Around} {x : Str} {pos : Pos} {l : List AV} {X : List Addr} {s : Shared} {Q : Value → Shared → Prop} {E : Value → Shared → Prop} (ok : C.Ok) (ho : S.own = some (x, l)) (rs : RelS C.env X s.heap S)
    (hd : (x == ("__debug__" : Str)) = false) (hn : (x == ("__classdict__" : Str)) = false)
    (k : ∀ b vs, OwnAt C.env X s.heap x l b vs → Q (.ref b) s) : wpAny M A (eval (.Name x pos) C.env) Q E s := by
  obtain ⟨b, vs, o⟩ := rs.2 x l ho
  exact wpAny_Name (load_rd ok.kind o.rd (k b vs o) hn) hd
theorem Ev_lenOwn {x : Str} {l : List AV} {fp px pos : Pos} (ho : S.own = some (x, l)) (hlen : l.length < 2 ^ 60) (h : Φ (.int l.length)) (hx : C.env.kindOf "len" = some .globalImplicit)
    (hd : (x == ("__debug__" : Str)) = false := by decide) (hn : (x == ("__classdict__" : Str)) = false := by decide) (hb : bootBuiltins "len" = some (.builtin "len")) : Ev C S (.Call (.Name "len" fp) [.Name x px] [] pos) Φ := by
  refine ⟨fun ok X s Q E p xi rs k => ?_⟩
  refine wpAny_Call_Name_kw ?_
  refine Calls.Name_function_global ok.kind hx (Calls.loadGlobal_builtin (by rw [ok.glob]; exact p.top.g) (C.g.nob _ (by decide)) (by rw [ok.blt]; exact p.top.b) ((p.top.builtins _ (by decide)).trans hb) ?_) (by decide)
  refine Calls.callWith_builtin rfl ?_
  show wpAny _ _ (evalArgs (.builtin "len") true [(false, _)] []) _ _ s
  refine Calls.evalArgs_plain ?_
  show wpAny _ _ (spliced (backTo pos (starEach [.Name x px] C.env))) _ _ s
  refine wpAny_items_cons (load_own ok ho rs hd hn fun b vs o => wpAny_items_nil ?_)
  have e : vs.toArray.size = l.length := by rw [List.size_toArray, o.rel.length]
  exact Calls.call_len_list o.lst.isList (by rw [e]; omega) (k (.int _) _ s.heap _ (StIn.refl _) ⟨_, by rw [e]⟩ h)
theorem Ev_itemOwn {x : Str} {l : List AV} {px pos : Pos} {slice : Expr} (ho : S.own = some (x, l))
    (h : Ev C S slice fun i => ∃ k av, i = .int k ∧ k < 0 ∧ -(l.length : Int) ≤ k ∧ -(2 ^ 60) ≤ k ∧ l[(k + l.length).toNat]? = some av ∧ Φ av)
    (hd : (x == ("__debug__" : Str)) = false := by decide) (hn : (x == ("__classdict__" : Str)) = false := by decide)
    (hs : ∀ o i, subscripted slice false o i = operate [o, i] (getItem o i) := by intro _ _; with_unfolding_all rfl) : Ev C S (.Subscript (.Name x px) slice pos) Φ := by
  refine ⟨fun ok X s Q E p xi rs k => ?_⟩
  refine PyProof.Rows.Subscript_ (load_own ok ho rs hd hn fun b vs o => ?_)
  refine h.go ok X s _ E p xi rs fun i vi h₁ t₁ st₁ ri hyp => ?_
  obtain ⟨j, av, rfl, h0, h1, h2, h3, φ⟩ := hyp
  obtain ⟨t, rfl⟩ := ri
  have o' := o.st st₁
  obtain ⟨v, hv, rv⟩ := o'.rel.get _ av h3
  exact PyProof.Rows.tail_any (s := { s with heap := h₁, toks := t₁ }) o'.lst.isList.typeIs slot_list_getitem.lookup
    (wpAny_getItem_list_neg o'.lst.isList h0 (by rw [List.size_toArray, o'.rel.length]; exact h1) (by omega) (by rw [List.size_toArray, o'.rel.length]; simpa using hv) (k av v h₁ t₁ st₁ rv φ)) (hs _ _)

/-- what a change of the own list leaves -/
theorem FS.own_change {s₀ s : Shared} {X₀ : List Addr} {b : Addr} {x : Str} {l l' : List AV} {vs' : List Value} (F : FS C s₀ X₀ (some b) S s) (ho : S.own = some (x, l)) {h' : Heap} {tk : Nat} (hs : Heap.SameBut b s.heap h') (hp : h'.PlainList b vs'.toArray) (hr : RelVs (b :: X₀) s.heap l' vs') :
    FS C s₀ X₀ (some b) ⟨S.vs, some (x, l')⟩ { s with heap := h', toks := tk } ∧ FKeep C (some b) s.heap h' := by
  have h := F.own
  rw [ho] at h
  obtain ⟨⟨vs, o⟩, hb⟩ := h
  obtain ⟨n, hbo⟩ := o.lst
  have hbL : b ≠ C.env.locals := by
    rintro rfl
    obtain ⟨m, o', es, ep, ho', hd, _⟩ := F.ffr.loc
    rw [hbo] at ho'; cases ho'; cases hd
  have hbC : ∀ y, C.env.cells.lookup y ≠ some b := by
    intro y hy
    obtain ⟨v, o', ho', hd⟩ := F.ffr.cel y b hy
    rw [hbo] at ho'; cases ho'; cases hd
  have kp : ∀ a o, a ≠ b → s.heap.get? a = some o → h'.get? a = some o := fun a o ha e => hs.extBut a o ha e
  have vk : VKeep (b :: X₀) s.heap h' := ⟨fun a o ha hv e => kp a o (by rintro rfl; exact ha List.mem_cons_self) e, fun a o hv hc e => kp a o (by rintro rfl; rw [hbo] at e; cases e; exact hc rfl) e⟩
  have hrd : ∀ y w, Rd C.env s.heap y w → Rd C.env h' y w := by
    rintro y w (⟨hk, m', hn, hw⟩ | ⟨hk, c', hc', hw⟩)
    · exact .inl ⟨hk, m', hn.sameBut hs (Ne.symm hbL), hw⟩
    · exact .inr ⟨hk, c', hc', hw.sameBut hs fun e => hbC y (e ▸ hc')⟩
  obtain ⟨m, cm, c⟩ := F.call
  refine ⟨⟨⟨m, cm, ⟨⟨?_, c.toInCall.ns.sameBut hs (Ne.symm hbL), fun a o e => kp a o (by rintro rfl; exact absurd (Heap.lt_size e) (Nat.not_lt.mpr hb)) (c.toInCall.keep a o e), c.toInCall.fresh⟩, fun y a e => (c.cell y a e).sameBut hs fun q => hbC y (q ▸ e), c.apart, c.above⟩⟩, ?_, ?_, F.xin⟩, ?_⟩
  · obtain ⟨h₁, tk₁, e⟩ := c.toInCall.same
    exact ⟨h', tk, by rw [e]⟩
  · exact fun y aw e => let ⟨w, h1, h2⟩ := F.vars y aw e; ⟨w, hrd y w h1, h2.keep vk⟩
  · exact ⟨⟨vs', hrd _ _ o.rd, o.inX, hp, hr.keep vk⟩, hb⟩
  · exact fun a o _ _ h3 e => kp a o (by rintro rfl; exact h3 rfl) e

/-- x.append(e) -/
theorem ExS_append {x : Str} {l : List AV} {px apos cpos pos : Pos} {e : Expr} (ho : S.own = some (x, l)) (h : Ev C S e fun a => l.length ≤ 2 ^ 20 ∧ Ψ .next ⟨S.vs, some (x, l ++ [a])⟩)
    (hd : (x == ("__debug__" : Str)) = false := by decide) (hn : (x == ("__classdict__" : Str)) = false := by decide)
    (hint : interactive C.env = false := by rfl)
    (hsw : swapsWith (.Call (.Attribute (.Name x px) "append" apos) [e] [] cpos) none pos.line C.env = pure false := by rfl)
    (hbase : attributeBase (.Name x px) "append" C.env (eval (.Name x px) C.env) = eval (.Name x px) C.env := by rfl)
    (hfew : ((backTo cpos (starEach [e] C.env)).all (fun x => !x.1) && (backToKw cpos (keywordEach [] C.env)).all (fun x => x.1.isSome) && decide (([e] : List Expr).length + ([] : List Keyword).length + (if ([] : List Keyword).isEmpty then 0 else 1) < 30)) = true := by rfl)
    (hline : (apos.endLine == cpos.line) = true := by rfl) (htrees : backTo cpos (starEach [e] C.env) = [(false, eval e C.env)] := by rfl) :
    ExS C S (.Expr (.Call (.Attribute (.Name x px) "append" apos) [e] [] cpos) pos) Ψ := by
  refine ⟨fun ok s₀ X₀ β s Q p F k => ?_⟩
  have hF := F.own
  rw [ho] at hF
  cases β with
  | none => exact hF.elim
  | some b =>
    obtain ⟨⟨vs, o⟩, hb⟩ := hF
    refine wpAny_Expr (wpAny_Call_append hbase hfew hline htrees (wpAny_Name (load_rd ok.kind o.rd ⟨b, vs.toArray, rfl, ?_, ?_⟩ hn) hd)) hint hsw
    · obtain ⟨n, hbo⟩ := o.lst; exact ⟨_, n, hbo, rfl, rfl, rfl⟩
    · refine h.go ok _ s _ _ (p.st F.keep) F.xinh F.relS fun a va h₁ t₁ st₁ ra hyp => ?_
      obtain ⟨hl, ψ⟩ := hyp
      have F₁ := F.st (tk := t₁) st₁
      have o₁ := o.st st₁
      refine wpAny_list_append_plain (s := { s with heap := h₁, toks := t₁ }) o₁.lst (fun h' hp hs => ?_) (by rw [List.size_toArray, o₁.rel.length, sizeLine_eq]; omega)
      have hp' : h'.PlainList b (vs ++ [va]).toArray := by simpa using hp
      obtain ⟨F', fk⟩ := F₁.own_change (tk := t₁) ho hs hp' (o₁.rel.append (l' := [a]) ⟨va, [], rfl, ra, rfl⟩)
      exact k .next .next _ (some b) h' t₁ F' (FKeep.trans (.of st₁) (.refl _ _) fk) (.refl _ _) rfl ψ

/-- x[i] = e, i from behind -/
theorem ExS_setOwn {x : Str} {l : List AV} {px sp pos : Pos} {i e : Expr} (ho : S.own = some (x, l))
    (h : Ev C S e fun a => Ev C S i fun j => ∃ k, j = .int k ∧ k < 0 ∧ -(l.length : Int) ≤ k ∧ -(2 ^ 60) ≤ k ∧ Ψ .next ⟨S.vs, some (x, l.set (k + l.length).toNat a)⟩)
    (hd : (x == ("__debug__" : Str)) = false := by decide) (hn : (x == ("__classdict__" : Str)) = false := by decide)
    (hs : swapsWith e (some (.Subscript (.Name x px) i sp)) pos.line C.env = pure false := by rfl) : ExS C S (.Assign [.Subscript (.Name x px) i sp] e pos) Ψ := by
  refine ⟨fun ok s₀ X₀ β s Q p F k => ?_⟩
  have hF := F.own
  rw [ho] at hF
  cases β with
  | none => exact hF.elim
  | some b =>
    obtain ⟨⟨vs, o⟩, hb⟩ := hF
    refine wpAny_Assign_Subscript (h.go ok _ s _ _ (p.st F.keep) F.xinh F.relS fun a va h₁ t₁ st₁ ra hb' => ?_) hs
    have F₁ := F.st (tk := t₁) st₁
    have o₁ := o.st st₁
    refine wpAny_Name (load_rd ok.kind o₁.rd ?_ hn) hd
    refine hb'.go ok _ _ _ _ ((p.st F.keep).st st₁) F₁.xinh F₁.relS fun j vj h₂ t₂ st₂ rj hyp => ?_
    obtain ⟨kk, rfl, h0, h1, h2, ψ⟩ := hyp
    obtain ⟨t, rfl⟩ := rj
    have F₂ := F₁.st (tk := t₂) st₂
    have o₂ := o₁.st st₂
    have hsz : vs.toArray.size = l.length := by rw [List.size_toArray, o₂.rel.length]
    refine setItem_neg (s := { s with heap := h₂, toks := t₂ }) o₂.lst h0 (by rw [hsz]; exact h1) (by omega) fun h' hp hs' => ?_
    have hp' : h'.PlainList b (vs.set (kk + l.length).toNat va).toArray := by
      rw [hsz] at hp
      simpa using hp
    have hrel : RelVs (b :: X₀) h₂ (l.set (kk + l.length).toNat a) (vs.set (kk + l.length).toNat va) := by
      have ra₂ := ra.st st₂
      have hl := o₂.rel.length
      refine RelVs.of (by rw [List.length_set, List.length_set, hl]) fun q aq vq h1 h2 => ?_
      rw [List.getElem?_set] at h1 h2
      by_cases hq : (kk + l.length).toNat = q
      · rw [if_pos hq] at h1 h2
        split at h1
        · split at h2
          · cases h1; cases h2; exact ra₂
          · cases h2
        · cases h1
      · rw [if_neg hq] at h1 h2
        obtain ⟨v', hv', rv'⟩ := o₂.rel.get q aq h1
        rw [h2] at hv'; cases hv'; exact rv'
    obtain ⟨F', fk⟩ := F₂.own_change (tk := t₂) ho hs' hp' hrel
    exact k .next .next _ (some b) h' t₂ F' (FKeep.trans (.of (st₁.trans st₂)) (.refl _ _) fk) (.refl _ _) rfl ψ

-- lists of ints compared
theorem ne_lists {A : Around} {s : Shared} {prog : Program} {w : World} {Q : Value → Shared → Prop} {E : Value → Shared → Prop} {a b : Addr} {va vb : List Value} {la lb : List Int} (hu : A.units < cLine) (ha : s.heap.IsList a va.toArray) (hb : s.heap.IsList b vb.toArray) (ia : IntsAre va la) (ib : IntsAre vb lb)
    (h : Q (.bool (decide (la ≠ lb))) s) : wpAny (model prog w) A (compareOp .NotEq (.ref a) (.ref b)) Q E s := by
  show wpAny _ _ (richCompare .NotEq (.ref a) (.ref b)) Q E s
  have l1 : va.length = la.length := ia.length
  have l2 : vb.length = lb.length := ib.length
  by_cases hl : va.length = vb.length
  · have hN := SeqAt.RcNeAt.lists (A := A) (s := s) (e := fun j => la.getD j 0 == lb.getD j 0) ha hb (by simpa using hl) hu (fun j h1 h2 => by
      have j1 : j < la.length := by rw [← l1]; simpa using h1
      have j2 : j < lb.length := by rw [← l2]; simpa using h2
      obtain ⟨t, ht⟩ := ia.get j la[j] (by simp)
      obtain ⟨u, hu'⟩ := ib.get j lb[j] (by simp)
      have e1 : va.toArray[j] = .int la[j] t := by
        have : va[j]? = some (va.toArray[j]) := by simp
        rw [ht] at this; exact (Option.some.inj this).symm
      have e2 : vb.toArray[j] = .int lb[j] u := by
        have : vb[j]? = some (vb.toArray[j]) := by simp
        rw [hu'] at this; exact (Option.some.inj this).symm
      rw [e1, e2]
      have g1 : la.getD j 0 = la[j] := by simp [j1]
      have g2 : lb.getD j 0 = lb[j] := by simp [j2]
      simp only [g1, g2]
      exact SeqAt.EqAt.int_int la[j] t lb[j] u)
    refine hN _ _ _ _ ?_
    have e : (!(List.range va.toArray.size).all fun j => la.getD j 0 == lb.getD j 0) = decide (la ≠ lb) := by
      rw [Bool.eq_iff_iff, Bool.not_eq_true', decide_eq_true_eq, List.all_eq_false]
      constructor
      · rintro ⟨j, hj, hne⟩ rfl; simp at hne
      · intro hne
        apply Classical.byContradiction
        intro hall
        apply hne
        apply List.ext_getElem
        · omega
        · intro j j1 j2
          apply Classical.byContradiction
          intro hj
          exact hall ⟨j, by simp [l1, j1], by simp [j1, j2, hj]⟩
    rw [e]; exact h
  · have hN := SeqAt.RcNeAt.lists_lengths (A := A) (s := s) ha hb (by simpa using hl) hu
    refine hN _ _ _ _ ?_
    have e : decide (la ≠ lb) = true := decide_eq_true fun e => hl (by rw [l1, l2, e])
    rw [e] at h; exact h
theorem Cmp_neL {la lb : List Int} (h : Φ (.bool (decide (la ≠ lb)))) : Cmp C .NotEq (.lst (IL la)) (.lst (IL lb)) Φ := by
  refine ⟨?_⟩
  rintro ok X s va vb Q E p xi ⟨a, vs, rfl, hax, hl, hr⟩ ⟨a', vs', rfl, hax', hl', hr'⟩ k
  exact ne_lists (by have := ok.room.units; omega) hl hl' hr.ints hr'.ints (k (.bool _) _ s.heap s.toks (StIn.refl _) rfl h)

/-- a statement whose ways meet -/
theorem ExS_cut {st : Stmt} (P : AS → Prop) (h1 : ExS C S st fun fl S' => match fl with | .next => ∃ S'', S'.le S'' ∧ P S'' | fl => Ψ fl S') (h2 : ∀ S'', P S'' → Ψ .next S'') : ExS C S st Ψ := by
  refine ⟨fun ok s₀ X₀ β s Q p F k => h1.go ok s₀ X₀ β s Q p F fun afl fl S' β' h' tk F' fk bv rf ψ => ?_⟩
  cases afl with
  | next => obtain ⟨S'', hle, hP⟩ := ψ; exact k .next fl S'' β' h' tk (F'.weak hle) fk bv rf (h2 S'' hP)
  | brk => exact k .brk fl S' β' h' tk F' fk bv rf ψ
  | cont => exact k .cont fl S' β' h' tk F' fk bv rf ψ
  | ret v => exact k (.ret v) fl S' β' h' tk F' fk bv rf ψ
/-- an expression whose ways meet -/
theorem Ev_cut {e : Expr} (P : AV → Prop) (h1 : Ev C S e P) (h2 : ∀ v, P v → Φ v) : Ev C S e Φ := h1.mono h2
/-- the nearest quotient, a half to the even one -/
def dn (a b : Int) : Int := a / b + if b < 2 * (a % b) + (a / b) % 2 then 1 else 0

theorem dn_spec {a b : Int} (hb : 0 < b) : -b ≤ 2 * (a - b * dn a b) ∧ 2 * (a - b * dn a b) ≤ b ∧ (2 * (a - b * dn a b) = b → dn a b % 2 = 0) ∧ (2 * (a - b * dn a b) = -b → dn a b % 2 = 0) := by
  have h1 := Int.mul_ediv_add_emod a b
  have h2 := Int.emod_nonneg a (show b ≠ 0 by omega)
  have h3 := Int.emod_lt_of_pos a hb
  unfold dn
  generalize a / b = q at *
  generalize a % b = r at *
  have h4 : q % 2 = 0 ∨ q % 2 = 1 := by omega
  split
  · rename_i h
    have e : b * (q + 1) = b * q + b := by rw [Int.mul_add, Int.mul_one]
    rw [e]
    generalize b * q = m at *
    refine ⟨by omega, by omega, fun _ => by omega, fun _ => by omega⟩
  · rename_i h
    rw [Int.add_zero]
    generalize b * q = m at *
    refine ⟨by omega, by omega, fun _ => by omega, fun _ => by omega⟩

theorem dn_uniq {a b q : Int} (hb : 0 < b) (h1 : -b ≤ 2 * (a - b * q)) (h2 : 2 * (a - b * q) ≤ b) (h3 : 2 * (a - b * q) = b → q % 2 = 0) (h4 : 2 * (a - b * q) = -b → q % 2 = 0) : dn a b = q := by
  have s := dn_spec (a := a) hb
  generalize dn a b = p at *
  obtain ⟨s1, s2, s3, s4⟩ := s
  have hd : p = q ∨ p ≤ q - 1 ∨ q + 1 ≤ p := by omega
  rcases hd with h | h | h
  · exact h
  · have e : b * p ≤ b * (q - 1) := Int.mul_le_mul_of_nonneg_left h (by omega)
    rw [Int.mul_sub, Int.mul_one] at e
    by_cases hq : p = q - 1
    · subst hq
      have e' : b * (q - 1) = b * q - b := by rw [Int.mul_sub, Int.mul_one]
      rw [e'] at s1 s2 s3 s4
      generalize b * q = m at *
      omega
    · have e2 : b * p ≤ b * (q - 2) := Int.mul_le_mul_of_nonneg_left (by omega) (by omega)
      rw [Int.mul_sub] at e2
      generalize b * q = m at *
      generalize b * p = n at *
      omega
  · have e : b * (q + 1) ≤ b * p := Int.mul_le_mul_of_nonneg_left h (by omega)
    rw [Int.mul_add, Int.mul_one] at e
    by_cases hq : p = q + 1
    · subst hq
      have e' : b * (q + 1) = b * q + b := by rw [Int.mul_add, Int.mul_one]
      rw [e'] at s1 s2 s3 s4
      generalize b * q = m at *
      omega
    · have e2 : b * (q + 2) ≤ b * p := Int.mul_le_mul_of_nonneg_left (by omega) (by omega)
      rw [Int.mul_add] at e2
      generalize b * q = m at *
      generalize b * p = n at *
      omega

theorem dn_neg {a b : Int} (hb : 0 < b) : dn (-a) b = -dn a b := by
  obtain ⟨s1, s2, s3, s4⟩ := dn_spec (a := a) hb
  refine dn_uniq hb ?_ ?_ ?_ ?_ <;> rw [Int.mul_neg] <;> omega

theorem dn_zero {b : Int} (hb : 0 < b) : dn 0 b = 0 := by
  refine dn_uniq hb ?_ ?_ ?_ ?_ <;> simp <;> omega
theorem dn_mul {a b : Int} (hb : 0 < b) : dn (b * a) b = a := by
  refine dn_uniq hb ?_ ?_ ?_ ?_ <;> omega

/-- what _div_nearest gives, as the walk tells it -/
theorem dn_walk {a b : Int} (hb : 0 < b) : (a.fdiv b + if decide (b < 2 * a.fmod b + Builtin.bitAnd (a.fdiv b) 1) = true then (1 : Int) else 0) = dn a b := by
  unfold dn
  rw [Int.fdiv_eq_ediv_of_nonneg _ (by omega), Int.fmod_eq_emod_of_nonneg _ (by omega), bitAnd_m1]
  simp
theorem dn_walkS {a : Int} {k : Nat} : (a.fdiv (2 ^ k) + if decide ((2 : Int) ^ k < 2 * Builtin.bitAnd a (2 ^ k - 1) + Builtin.bitAnd (a.fdiv (2 ^ k)) 1) = true then (1 : Int) else 0) = dn a (2 ^ k) := by
  have h : (0 : Int) < 2 ^ k := Int.pow_pos (by decide)
  rw [kbt_maskF]; exact dn_walk h

-- sizes
open Builtin.Int (intBits)
theorem bits_lt {x : Int} {m : Nat} (h : intBits x ≤ m) : x.natAbs < 2 ^ m := intBits_le_iff.mp h
theorem lt_bits {x : Int} {m : Nat} (h : x.natAbs < 2 ^ m) : intBits x ≤ m := intBits_le_iff.mpr h

-- slices
theorem pick_plain {α : Type} (l : List α) (lo hi : Option Int) : pickL l lo hi none = (l.drop (lo.elim 0 (clipAt l.length))).take (hi.elim l.length (clipAt l.length) - lo.elim 0 (clipAt l.length)) := by
  unfold pickL
  rw [sliceBounds_plain]
  simp only [sliceRange_one]
  have := pick_run l.toArray (lo.elim 0 (clipAt l.length)) (hi.elim l.length (clipAt l.length) - lo.elim 0 (clipAt l.length))
  simpa using this
theorem pick_upto {α : Type} (l : List α) (b : Nat) : pickL l none (some (b : Int)) none = l.take b := by
  rw [pick_plain]; simp only [Option.elim, clipAt_nat, List.drop_zero, Nat.sub_zero]
  rw [List.take_eq_take_iff]; omega
theorem pick_from {α : Type} (l : List α) (a : Nat) : pickL l (some (a : Int)) none none = l.drop a := by
  rw [pick_plain]; simp only [Option.elim, clipAt_nat]
  by_cases h : a ≤ l.length
  · rw [Nat.min_eq_left h, List.take_of_length_le (by simp)]
  · rw [Nat.min_eq_right (by omega), List.drop_of_length_le (by omega), List.drop_of_length_le (by omega)]; simp
theorem pick_uptoI {α : Type} (l : List α) {b : Int} (h : 0 ≤ b) : pickL l none (some b) none = l.take b.toNat := by
  have := pick_upto l b.toNat; rwa [Int.toNat_of_nonneg h] at this
theorem pick_fromI {α : Type} (l : List α) {b : Int} (h : 0 ≤ b) : pickL l (some b) none none = l.drop b.toNat := by
  have := pick_from l b.toNat; rwa [Int.toNat_of_nonneg h] at this
theorem IL_get {l : List Int} {i : Nat} {av : AV} (h : (IL l)[i]? = some av) : ∃ n, l[i]? = some n ∧ av = .int n := by
  rw [List.getElem?_map] at h
  cases hn : l[i]? with
  | none => rw [hn] at h; cases h
  | some n => rw [hn] at h; cases h; exact ⟨n, rfl, rfl⟩
theorem rngL_get {a c : Int} {n i : Nat} {av : AV} (h : (rngL a c n)[i]? = some av) : i < n ∧ av = .int (a + i * c) := by
  unfold rngL at h
  rw [List.getElem?_map] at h
  by_cases hi : i < n
  · rw [List.getElem?_range hi] at h; cases h; exact ⟨hi, rfl⟩
  · rw [List.getElem?_eq_none (by simp; omega)] at h; cases h
theorem rngL_len {a c : Int} {n : Nat} : (rngL a c n).length = n := by simp [rngL]
theorem abs_if (x : Int) : (if x < 0 then -x else x) = (x.natAbs : Int) := by split <;> omega
set_option linter.unusedVariables false
local macro_rules | `(tactic| walk_at "mw") => `(tactic| first
  | refine ExS_aug rfl ?_ ⟨.inr ⟨rfl, rfl⟩, by first | exact trivial | exact rfl⟩)
local macro_rules | `(tactic| walk_at "cap") => `(tactic| repeat (first | exact List.forall_mem_nil _ | refine List.forall_mem_cons.mpr ⟨⟨rfl, rfl, rfl, rfl, rfl⟩, ?_⟩))
theorem ifB {c : Bool} {P Q : Prop} (h1 : c = true → P) (h2 : c = false → Q) : if c = true then P else Q := by cases c <;> simp_all
theorem rng_up (a b : Int) : Builtin.Range.rangeSize a b 1 = ((b - a).toNat : Int) := by
  unfold Builtin.Range.rangeSize; simp; omega
theorem Items_up (a b : Int) : Items (.rng a b 1) (IL ((List.range (b - a).toNat).map fun i : Nat => a + i)) := by
  have h := Items.rng a b 1 _ (rng_up a b)
  rw [show rngL a 1 (b - a).toNat = IL ((List.range (b - a).toNat).map fun i : Nat => a + i) from by simp [rngL]] at h
  exact h
theorem filter_nil {α : Type} {p : α → Bool} {l : List α} : l.filter p = [] ↔ ∀ x ∈ l, p x = false := by simp
set_option linter.unusedVariables false
-- the nearest whole root, and Newton's way to it
/-- r is the nearest whole root of n -/
structure Rt (n r : Int) : Prop where
  pos : 0 < r
  lo : r * (r - 1) < n
  hi : n ≤ r * (r + 1)
theorem Rt.uniq {n r q : Int} (h : Rt n r) (h' : Rt n q) : r = q := by
  have key : ∀ {a b : Int}, Rt n a → Rt n b → ¬ a < b := by
    intro a b h h' hl
    have h1 := h.hi
    have h2 := h'.lo
    have h3 : a * (a + 1) ≤ (b - 1) * b := Int.mul_le_mul (by omega) (by omega) (by have := h.pos; omega) (by have := h.pos; omega)
    rw [Int.mul_comm (b - 1)] at h3
    omega
  have := key h h'
  have := key h' h
  omega
/-- Newton's step -/
def ns1 (n a : Int) : Int := (a - (-n) / a) / 2
theorem ns1_c {n a : Int} (ha : 0 < a) (hn : 0 < n) : ∃ c : Int, ns1 n a = (a + c) / 2 ∧ n ≤ a * c ∧ a * (c - 1) < n ∧ 0 < c := by
  refine ⟨-((-n) / a), by unfold ns1; rw [Int.sub_eq_add_neg], ?_, ?_, ?_⟩
  · have := Int.mul_ediv_add_emod (-n) a
    have := Int.emod_nonneg (-n) (show a ≠ 0 by omega)
    rw [Int.mul_neg]; omega
  · have := Int.mul_ediv_add_emod (-n) a
    have := Int.emod_lt_of_pos (-n) ha
    rw [Int.mul_sub, Int.mul_neg, Int.mul_one]; omega
  · have : (-n) / a < 0 := Int.ediv_neg_of_neg_of_pos (by omega) ha
    omega
theorem ns1_pos {n a : Int} (ha : 0 < a) (hn : 0 < n) : 0 < ns1 n a := by
  obtain ⟨c, h1, _, _, h4⟩ := ns1_c ha hn
  rw [h1]; omega
theorem ns1_hi {n a : Int} (ha : 0 < a) (hn : 0 < n) : n ≤ ns1 n a * (ns1 n a + 1) := by
  obtain ⟨c, h1, h2, _, h4⟩ := ns1_c ha hn
  rw [h1]
  rcases Int.emod_two_eq (a + c) with h | h
  · obtain ⟨k, hk⟩ : ∃ k, a + c = 2 * k := ⟨(a + c) / 2, by omega⟩
    rw [show (a + c) / 2 = k by omega]
    have : 0 ≤ (a - c) * (a - c) := by
      rcases Int.le_total 0 (a - c) with h | h
      · exact Int.mul_nonneg h h
      · exact Int.mul_nonneg_of_nonpos_of_nonpos h h
    have e : 4 * (k * k) = (a - c) * (a - c) + 4 * (a * c) := by
      have : c = 2 * k - a := by omega
      subst this; grind
    have hk0 : 0 ≤ k := by omega
    rw [Int.mul_add, Int.mul_one]
    generalize k * k = x at *; generalize a * c = y at *; generalize (a - c) * (a - c) = z at *
    omega
  · obtain ⟨k, hk⟩ : ∃ k, a + c = 2 * k + 1 := ⟨(a + c) / 2, by omega⟩
    rw [show (a + c) / 2 = k by omega]
    have : 1 ≤ (a - c) * (a - c) := by
      have hne : a - c ≠ 0 := by omega
      rcases Int.lt_or_gt_of_ne hne with h | h
      · have := Int.mul_pos_of_neg_of_neg h h; omega
      · have := Int.mul_pos h h; omega
    have e : 4 * (k * (k + 1)) + 1 = (a - c) * (a - c) + 4 * (a * c) := by
      have : c = 2 * k + 1 - a := by omega
      subst this; grind
    generalize k * (k + 1) = x at *; generalize a * c = y at *; generalize (a - c) * (a - c) = z at *
    omega
theorem ns1_fix {n a : Int} (ha : 0 < a) (hn : 0 < n) (h : ns1 n a = a) : Rt n a := by
  obtain ⟨c, h1, h2, h3, h4⟩ := ns1_c ha hn
  rw [h1] at h
  have hc : c = a ∨ c = a + 1 := by omega
  rcases hc with rfl | rfl
  · exact ⟨ha, h3, by rw [Int.mul_add]; omega⟩
  · refine ⟨ha, ?_, h2⟩
    have : a * (a - 1) ≤ a * (a + 1 - 1) := Int.mul_le_mul_of_nonneg_left (by omega) (by omega)
    omega
theorem ns1_le {n a : Int} (ha : 0 < a) (hn : 0 < n) (h : n ≤ a * (a + 1)) : ns1 n a ≤ a := by
  obtain ⟨c, h1, h2, h3, h4⟩ := ns1_c ha hn
  rw [h1]
  have : c - 1 < a + 1 := Int.lt_of_mul_lt_mul_left (Int.lt_of_lt_of_le h3 h) (by omega)
  omega
set_option linter.unusedVariables false
theorem lt_int {prog : Program} {w : World} {A : Around} {E : Value → Shared → Prop} {s : Shared} {Q : Value → Shared → Prop} {a b : Int} {t u : Tok} (h : Q (.bool (decide (a < b))) s) : wpAny (model prog w) A (richCompare .Lt (.int a t) (.int b u)) Q E s :=
  CmpOf.ints_lt (prog := prog) (w := w) (A := A) (P := fun i v => (i = 0 ∧ v = .int a t) ∨ (i ≠ 0 ∧ v = .int b u)) (fun i => if i = 0 then a else b) (fun i v hv => by
    rcases hv with ⟨h, rfl⟩ | ⟨h, rfl⟩
    · exact ⟨t, by simp [h]⟩
    · exact ⟨u, by simp [h]⟩) 0 1 _ _ s Q E (.inl ⟨rfl, rfl⟩) (.inr ⟨by decide, rfl⟩) (by simpa using h)

/-- the order of triples -/
def lt3 (x y : Int × Int × Int) : Bool := if x.1 = y.1 then (if x.2.1 = y.2.1 then decide (x.2.2 < y.2.2) else decide (x.2.1 < y.2.1)) else decide (x.1 < y.1)

theorem lt_trip {prog : Program} {w : World} {A : Around} {E : Value → Shared → Prop} {s : Shared} {Q : Value → Shared → Prop} {ta tb : Addr} {x0 x1 x2 y0 y1 y2 : Int} {t0 t1 t2 u0 u1 u2 : Tok} (hu : A.units < cLine)
    (ha : s.heap.IsTuple ta #[.int x0 t0, .int x1 t1, .int x2 t2]) (hb : s.heap.IsTuple tb #[.int y0 u0, .int y1 u1, .int y2 u2])
    (h : Q (.bool (lt3 (x0, x1, x2) (y0, y1, y2))) s) : wpAny (model prog w) A (richCompare .Lt (.ref ta) (.ref tb)) Q E s := by
  obtain ⟨oa, hoa, hca, na, hda⟩ := ha
  obtain ⟨ob, hob, hcb, nb, hdb⟩ := hb
  have hTa : s.TypeIs (.ref ta) "tuple" := ⟨_, hoa, hca⟩
  have hTb : s.TypeIs (.ref tb) "tuple" := ⟨_, hob, hcb⟩
  refine wpAny_richCompare_same_room hTa hTb F.slot_tuple_lt (wpAny_call_entry F.slot_tuple_lt hTa F.entry_tuple_lt ?_ (F.args_tuple_lt_2 _ _)) hu
  show wpAny _ _ (isInstance (.ref tb) (.type "tuple") >>= _) _ _ s
  refine wpAny_bind (wpAny_isInstance hTb isSubtype_tuple_tuple ?_)
  simp only [Bool.not_true, Bool.false_eq_true, if_false]
  refine wpAny_bind (wpAny_tupleItemsOf hoa hda ?_)
  refine wpAny_bind (wpAny_tupleItemsOf hob hdb ?_)
  simp only [List.zip_cons_cons, List.zip_nil_right, List.forIn_cons, List.forIn_nil]
  refine wpAny_bind (wpAny_bind (wpAny_bind (wpAny_eqBool_int ?_)))
  by_cases h0 : x0 = y0
  · subst h0
    simp only [BEq.rfl, Bool.not_true, Bool.false_eq_true, if_false]
    refine wpAny_pure (wpAny_bind (wpAny_bind (wpAny_eqBool_int ?_)))
    by_cases h1 : x1 = y1
    · subst h1
      simp only [BEq.rfl, Bool.not_true, Bool.false_eq_true, if_false]
      refine wpAny_pure (wpAny_bind (wpAny_bind (wpAny_eqBool_int ?_)))
      by_cases h2 : x2 = y2
      · subst h2
        simp only [BEq.rfl, Bool.not_true, Bool.false_eq_true, if_false]
        refine wpAny_pure (wpAny_pure ?_)
        refine wpAny_pure ⟨.bool false, rfl, (fun q => by cases q), ?_⟩
        have : lt3 (x0, x1, x2) (x0, x1, x2) = false := by simp [lt3]
        rw [this] at h; exact h
      · rw [if_pos (by simp [h2])]
        refine wpAny_bind (wpAny_rule (wpAny_bind (lt_int (wpAny_bind (wpAny_pure (wpAny_pure ?_))))))
        refine wpAny_pure (wpAny_pure ⟨_, rfl, (fun q => by cases q), ?_⟩)
        simpa [lt3, h2] using h
    · rw [if_pos (by simp [h1])]
      refine wpAny_bind (wpAny_rule (wpAny_bind (lt_int (wpAny_bind (wpAny_pure (wpAny_pure ?_))))))
      refine wpAny_pure (wpAny_pure ⟨_, rfl, (fun q => by cases q), ?_⟩)
      simpa [lt3, h1] using h
  · rw [if_pos (by simp [h0])]
    refine wpAny_bind (wpAny_rule (wpAny_bind (lt_int (wpAny_bind (wpAny_pure (wpAny_pure ?_))))))
    refine wpAny_pure (wpAny_pure ⟨_, rfl, (fun q => by cases q), ?_⟩)
    simpa [lt3, h0] using h

theorem min_trip {prog : Program} {w : World} {A : Around} {E : Value → Shared → Prop} {s : Shared} {Q : Value → Shared → Prop} {l ta tb : Addr} {x0 x1 x2 y0 y1 y2 : Int} {t0 t1 t2 u0 u1 u2 : Tok} (hh : A.handled = none) (hu : A.in1.units < cLine)
    (hl : s.heap.IsList l #[.ref ta, .ref tb]) (ha : s.heap.IsTuple ta #[.int x0 t0, .int x1 t1, .int x2 t2]) (hb : s.heap.IsTuple tb #[.int y0 u0, .int y1 u1, .int y2 u2])
    (h : ∀ h' tk, StIn s.heap h' → Q (if lt3 (y0, y1, y2) (x0, x1, x2) then .ref tb else .ref ta) { s with heap := h', toks := tk }) : wpAny (model prog w) A (call (.builtin "min") [.ref l]) Q E s := by
  have hname : (toString "min" ++ toString ".loop" : String) = "min.loop" := by decide
  refine call_function_tree F.kind_min F.plain_min F.entry_min (F.args_min1 _) ?_
  show wpAny _ A.in1 (Builtin.Builtins.bindParams "min" ["key", "default"] 0 ⟨[], []⟩ >>= _) _ _ s
  refine wpAny_bind (wpAny_of_eq (show Builtin.Builtins.bindParams "min" ["key", "default"] 0 ⟨[], []⟩ = pure [none, none] from rfl) ?_)
  refine wpAny_bind (wpAny_pure ?_)
  refine wpAny_bind (wpAny_pyIter_list hl ?_)
  obtain ⟨ol, hol, hcl⟩ := id hl
  have hll : l < s.heap.objs.size := Heap.lt_size hol
  generalize hH1 : s.heap.push { cls := .type "list_iterator", data := .fields #[.ref l, .int 0 0] } = H1
  generalize hI : s.heap.objs.size = I at *
  have hS1 : H1.objs.size = I + 1 := by rw [← hH1, Heap.size_push, hI]
  have st1 : StIn s.heap H1 := by rw [← hH1]; exact StIn.push _ _
  refine wpAny_bind (wpAny_newObj_type ?_)
  rw [hname]
  have W := Walks.list (prog := prog) (w := w) (A := A.in1) hh I l (Nat.ne_of_lt hll) #[.ref ta, .ref tb]
  generalize hH2 : H1.push { cls := .type "list", dict := none, data := .seq ([] : List Value).toArray } = H2
  have st2 : StIn s.heap H2 := st1.trans (by rw [← hH2]; exact StIn.push _ _)
  have hSg : H2.get? (I + 1) = some { cls := .type "list", dict := none, data := .seq ([] : List Value).toArray } := by rw [← hH2, ← hS1]; exact Heap.get?_push_size _ rfl
  have hst : H2.IsListIter I l 0 ∧ H2.IsList l #[.ref ta, .ref tb] := by
    refine ⟨⟨{ cls := .type "list_iterator", data := .fields #[.ref l, .int 0 0] }, ?_, rfl, rfl⟩, hl.at fun o e => st2 _ _ e⟩
    rw [← hH2]; refine Heap.get?_push_of_some _ ?_
    rw [← hH1, ← hI]; exact Heap.get?_push_size _ rfl
  have hS : H1.objs.size = I + 1 := hS1
  refine wpAny_pure ⟨plainId_quiet F.plain_min_loop _, ?_⟩
  show codeAny _ A (.builtin "min.loop" ⟨[.ref I, .none, .ref H1.objs.size], []⟩) _ _
  rw [hS]
  have hSI : I + 1 ∉ [I] := by simp
  have hSf : I + 1 ≠ l := Nat.ne_of_gt (Nat.lt_succ_of_lt hll)
  have old : ∀ {h₁ h₂ : Heap}, StIn s.heap h₁ → (∀ b o, b ∉ [I] → h₁.get? b = some o → h₂.get? b = some o) → StIn s.heap h₂ := by
    intro h₁ h₂ st hk b o e
    refine hk b o (fun hm => ?_) (st b o e)
    have := Heap.lt_size e
    rw [List.mem_singleton.mp hm, hI] at this
    exact Nat.lt_irrefl _ this
  have old2 : ∀ {h₁ : Heap} {f : Obj → Obj}, StIn s.heap h₁ → StIn s.heap (h₁.update (I + 1) f) := by
    intro h₁ f st b o e
    refine (Heap.get?_update_other _ _ ?_).trans (st b o e)
    have := Heap.lt_size e
    rw [hI] at this
    exact Nat.ne_of_gt (Nat.lt_succ_of_lt this)
  have frm : ∀ {h₁ : Heap} {f : Obj → Obj} {i : Nat}, (h₁.IsListIter I l i ∧ h₁.IsList l #[.ref ta, .ref tb]) → ((h₁.update (I + 1) f).IsListIter I l i ∧ (h₁.update (I + 1) f).IsList l #[.ref ta, .ref tb]) := by
    intro h₁ f i st
    exact W.frame _ _ _ st fun b hbf o e => (Heap.get?_update_other _ _ (by
      rcases List.mem_cons.mp hbf with rfl | hbf
      · exact Nat.succ_ne_self _
      · obtain rfl := List.mem_singleton.mp hbf; exact hSf)).trans e
  -- the first item
  refine codeAny_builtin F.entry_min_loop ?_
  rw [Around.under_plainId F.plain_min_loop _]
  show wpAny _ A.in1 (seqItems? (.ref (I + 1)) >>= _) _ _ _
  refine wpAny_bind (wpAny_seqItems hSg rfl ?_)
  show wpAny _ A.in1 (tryCatch (pyNext (.ref I)) _ >>= _) _ _ _
  refine wpAny_bind (wpAny_tryCatch (W.item 0 _ _ _ (by simp) hst fun v h₁ tk₁ hP₁ hst₁ hk₁ => ?_))
  obtain rfl : v = .ref ta := by simpa using hP₁.symm
  have hS₁ := hk₁ _ _ hSI hSg
  have o₁ := old st2 hk₁
  show wpAny _ A.in1 (updateSeq (I + 1) (fun _ => #[.ref ta, .ref ta]) >>= _) _ _ _
  refine wpAny_bind (wpAny_updateSeq hS₁ rfl ?_)
  rw [hname]
  refine wpAny_pure ⟨plainId_quiet F.plain_min_loop _, ?_⟩
  -- the second
  have hS₂ := Heap.get?_update_self (fun o => o.mapSeq fun _ => #[.ref ta, .ref ta]) hS₁ rfl
  refine codeAny_builtin F.entry_min_loop ?_
  rw [Around.under_plainId F.plain_min_loop _]
  show wpAny _ A.in1 (seqItems? (.ref (I + 1)) >>= _) _ _ _
  refine wpAny_bind (wpAny_seqItems hS₂ rfl ?_)
  show wpAny _ A.in1 (tryCatch (pyNext (.ref I)) _ >>= _) _ _ _
  refine wpAny_bind (wpAny_tryCatch (W.item 1 _ _ _ (by simp) (frm hst₁) fun v h₃ tk₃ hP₃ hst₃ hk₃ => ?_))
  obtain rfl : v = .ref tb := by simpa using hP₃.symm
  have o₃ := old (old2 o₁) hk₃
  have hS₃ := hk₃ _ _ hSI hS₂
  show wpAny _ A.in1 (tryCatch (holding [.ref tb, .ref tb] (richCompare .Lt (.ref tb) (.ref ta) >>= _)) _ >>= _) _ _ _
  refine wpAny_bind (wpAny_tryCatch (wpAny_holding (wpAny_bind (lt_trip hu (hb.at fun o e => o₃ _ _ e) (ha.at fun o e => o₃ _ _ e) ?_))))
  refine wpAny_bind (wpAny_holding (wpAny_truthy_bool ?_))
  refine wpAny_bind (wpAny_letGo (wpAny_pure ?_))
  have last : ∀ {h₄ : Heap} {tk₄ : Nat} {vb : Value} {c : Nat}, StIn s.heap h₄ → h₄.get? (I + 1) = some { cls := .type "list", dict := none, data := .seq #[vb, vb] c, slots := #[] } → (h₄.IsListIter I l 2 ∧ h₄.IsList l #[.ref ta, .ref tb]) →
      vb = (if lt3 (y0, y1, y2) (x0, x1, x2) = true then .ref tb else .ref ta) → codeAny (model prog w) A (.builtin "min.loop" ⟨[.ref I, .none, .ref (I + 1)], []⟩) (fun r s' => match r with
        | Except.ok (Flow.ret v) => Q v s'
        | Except.ok a => False
        | Except.error e => E e s') { s with heap := h₄, toks := tk₄ } := by
    intro h₄ tk₄ vb c o₄ hS₄ hst₄ hvb
    refine codeAny_builtin F.entry_min_loop ?_
    rw [Around.under_plainId F.plain_min_loop _]
    show wpAny _ A.in1 (seqItems? (.ref (I + 1)) >>= _) _ _ _
    refine wpAny_bind (wpAny_seqItems hS₄ rfl ?_)
    show wpAny _ A.in1 (tryCatch (pyNext (.ref I)) _ >>= _) _ _ _
    refine wpAny_bind (wpAny_tryCatch (W.done _ _ _ hst₄ fun h₅ tk₅ hk₅ => ?_))
    have hS₅ := hk₅ _ _ hSI hS₄
    show wpAny _ A.in1 (updateSeq (I + 1) (fun _ => #[]) >>= _) _ _ _
    refine wpAny_bind ?_
    refine wpAny_updateSeq hS₅ rfl (wpAny_bind (wpAny_letGo (wpAny_pure ?_)))
    show Q vb _
    rw [hvb]
    exact h _ _ (old2 (old o₄ hk₅))
  cases hb' : lt3 (y0, y1, y2) (x0, x1, x2) with
  | true =>
    simp only [if_true]
    refine wpAny_bind ?_
    refine wpAny_updateSeq hS₃ rfl (wpAny_bind (wpAny_letGo ?_))
    rw [hname]
    refine wpAny_pure ⟨plainId_quiet F.plain_min_loop _, ?_⟩
    exact last (old2 o₃) (Heap.get?_update_self _ hS₃ rfl) (frm hst₃) (by rw [hb']; rfl)
  | false =>
    simp only [Bool.false_eq_true, if_false]
    refine wpAny_bind (wpAny_letGo ?_)
    rw [hname]
    refine wpAny_pure ⟨plainId_quiet F.plain_min_loop _, ?_⟩
    exact last o₃ hS₃ hst₃ (by rw [hb']; rfl)

section
variable {C : CX} {S : AS} {Φ : AV → Prop}
theorem RelVs.three {X : List Addr} {h : Heap} {a b c : Int} {vs : List Value} (r : RelVs X h (IL [a, b, c]) vs) : ∃ t u v, vs = [.int a t, .int b u, .int c v] := by
  obtain ⟨v, r1, rfl, ⟨t, rfl⟩, ⟨v', r2, rfl, ⟨u, rfl⟩, ⟨v'', r3, rfl, ⟨w, rfl⟩, rfl⟩⟩⟩ := r
  exact ⟨t, u, w, rfl⟩
theorem CallB_minT {x y : Int × Int × Int} (h : Φ (.tup (IL (if lt3 y x then [y.1, y.2.1, y.2.2] else [x.1, x.2.1, x.2.2])))) : CallB C (.builtin "min") [.lst [.tup (IL [x.1, x.2.1, x.2.2]), .tup (IL [y.1, y.2.1, y.2.2])]] Φ := by
  refine ⟨?_⟩
  rintro ok X s vs Q E _ _ ⟨v, r, rfl, ⟨l, vs', rfl, hx, hl, hr⟩, rfl⟩ k
  obtain ⟨v0, r0, rfl, ⟨ta, vsa, rfl, hta, hra⟩, ⟨v1, r1, rfl, ⟨tb, vsb, rfl, htb, hrb⟩, rfl⟩⟩ := hr
  obtain ⟨t0, t1, t2, rfl⟩ := RelVs.three hra
  obtain ⟨u0, u1, u2, rfl⟩ := RelVs.three hrb
  refine min_trip ok.room.hh (by have := ok.room.units; show C.A.units + 1 < cLine; omega) hl hta htb fun h' tk st => ?_
  cases hb : lt3 y x with
  | true =>
    rw [hb] at h
    exact k (.tup (IL [y.1, y.2.1, y.2.2])) _ h' tk st ⟨tb, _, rfl, htb.at fun o e => st _ _ e, hrb.st st⟩ h
  | false =>
    rw [hb] at h
    exact k (.tup (IL [x.1, x.2.1, x.2.2])) _ h' tk st ⟨ta, _, rfl, hta.at fun o e => st _ _ e, hra.st st⟩ h
theorem CallB_typeI {a : Int} (h : Φ (.ty "int")) : CallB C (.type "type") [.int a] Φ := by
  refine ⟨?_⟩
  rintro ok X s vs Q E _ _ ⟨v, r, rfl, ⟨t, rfl⟩, rfl⟩ k
  exact call_type_of (typeIs_int s a t) (by decide) (k (.ty "int") _ s.heap s.toks (StIn.refl _) rfl h)
theorem Cmp_isnotT {X Y : String} (h : Φ (.bool (!(Value.type X == Value.type Y)))) : Cmp C .IsNot (.ty X) (.ty Y) Φ := by
  refine ⟨?_⟩
  rintro ok Z s va vb Q E _ _ rfl rfl k
  exact isnot_type (k (.bool _) _ s.heap s.toks (StIn.refl _) rfl h)
theorem CallB_strI {a : Int} (ha : a.natAbs.log2 < 1920) (h : Φ (.str (toString a))) : CallB C (.type "str") [.int a] Φ := by
  refine ⟨?_⟩
  rintro ok X s vs Q E _ _ ⟨v, r, rfl, ⟨t, rfl⟩, rfl⟩ k
  exact PySem.P.str_of_int ha (k (.str _) _ s.heap _ (StIn.refl _) ⟨_, rfl⟩ h)
theorem CallB_lenS {x : Str} (hx : x.length < 2 ^ 62) (h : Φ (.int x.length)) : CallB C (.builtin "len") [.str x] Φ := by
  refine ⟨?_⟩
  rintro ok X s vs Q E _ _ ⟨v, r, rfl, ⟨t, rfl⟩, rfl⟩ k
  exact PySem.P.len_str (by omega) (k (.int _) _ s.heap _ (StIn.refl _) ⟨_, rfl⟩ h)
theorem Ev_bitlen {x : Str} {px apos pos : Pos} {a : Int} (hx : S.vs.lookup x = some (.int a)) (h : Φ (.int (intBits a : Nat)))
    (hbase : attributeBase (.Name x px) "bit_length" C.env (eval (.Name x px) C.env) = eval (.Name x px) C.env := by rfl) (hline : (apos.endLine == pos.line) = true := by rfl)
    (hd : (x == ("__debug__" : Str)) = false := by decide) (hn : (x == ("__classdict__" : Str)) = false := by decide) : Ev C S (.Call (.Attribute (.Name x px) "bit_length" apos) [] [] pos) Φ := by
  refine ⟨fun ok X s Q E p xi rs k => ?_⟩
  obtain ⟨v, hr, ⟨t, rfl⟩⟩ := rs.1 x _ hx
  refine wpAny_Call_method0_late hbase hline (wpAny_Name (load_rd ok.kind hr ⟨"int", "int.bit_length", F.plainAttrs_int, F.slot_int_bit_length, F.type_int_bit_length, typeIs_int _ _ _, (fun _ e => by cases e), ?_⟩ hn) hd)
  exact callWith_method0 (env := C.env) (call_int_bit_length (k (.int _) _ s.heap _ (StIn.refl _) ⟨_, rfl⟩ h))
end
set_option maxHeartbeats 4000000
set_option linter.unusedVariables false
section
variable {C : CX} {S : AS} {Φ : AV → Prop}
theorem lookup_capsA {x y : Str} {av aw : AV} {caps : AM} (e : ((x, aw) :: caps).lookup y = some av) : (y = x ∧ av = aw) ∨ ((y, av) ∈ caps) := by
  rw [List.lookup_cons] at e
  cases hb : y == x with
  | true => rw [hb] at e; cases e; exact .inl ⟨beq_iff_eq.mp hb, rfl⟩
  | false => rw [hb] at e; exact .inr (mem_of_lookup e)

/-- a list comprehension without tests, of any values -/
theorem Ev_compT {elt iter : Expr} {x : Str} {px pos : Pos} {scope : Scope} {cl : List (Str × Addr)} (caps : AM) (avs : List AV)
    (hclos : closureFor scope C.env = pure cl)
    (h : Ev C S iter fun av => ∃ xs : List AV, Items av xs ∧ xs.length ≤ 2 ^ 20 ∧ avs.length = xs.length ∧ Caps C S scope cl x caps ∧
      (∀ (i : Nat) aw, xs[i]? = some aw → ∀ a, Ev (C.comp scope cl a) ⟨(x, aw) :: caps, none⟩ elt fun v => avs[i]? = some v) ∧ Φ (.lst avs))
    (hcell : ∀ y ∈ scope.names, y.2 ≠ .cell := by decide) (hkind : scope.kind = .function := by rfl)
    (hnames : ∀ y ∈ scope.names, y.2 = .local → scope.names.lookup y.1 = some .local := by decide) (hx : scope.names.lookup x = some .local := by rfl)
    (hs : ∀ x, foldedSetIterable iter C.env x = pure x := by intro _; rfl) : Ev C S (.ListComp elt [⟨.Name x px, iter, [], 0⟩] scope pos) Φ := by
  refine ⟨fun ok X s Q E p xi rs k => ?_⟩
  rw [eval_ListComp]
  refine wpAny_comprehension_free (use := none) rfl hs hclos hkind hnames (h.go ok X s _ E p xi rs fun av v h₁ t₁ st₁ rv hyp => ?_)
  obtain ⟨xs, hit, hlen, hal, hcap, helt, φ⟩ := hyp
  refine iter_go ok hit rv fun fp P St o itr hfree => ?_
  generalize hJ : h₁.objs.size = J at itr
  have stH : StIn s.heap (h₁.push o) := st₁.trans (StIn.push _ _)
  generalize hH0 : h₁.push o = H0 at *
  have hH0s : H0.objs.size = J + 1 := by rw [← hH0, Heap.size_push, hJ]
  refine wpAny_newObj_type (wpAny_newFunctionEnv hcell (by intro y hy; simp at hy) (fun h₂ hns₂ hsb₂ => ?_) hkind)
  dsimp only at hns₂ hsb₂ ⊢
  generalize hH1 : H0.push { cls := .type "list", dict := none, data := .seq ([] : List Value).toArray } = H1 at *
  have hH1s : H1.objs.size = J + 2 := by rw [← hH1, Heap.size_push, hH0s]
  rw [hH0s]
  rw [hH1s] at hns₂ hsb₂ ⊢
  have low3 : ∀ b : Nat, b < J → b ≠ J + 2 ∧ b ≠ J + 1 ∧ b ≠ J := by intro b hb; omega
  have n12 : ¬ (J + 1 : Nat) < J := by omega
  have n20 : ¬ (J + 2 : Nat) = J := by omega
  have n02 : ¬ (J : Nat) = J + 2 := by omega
  have n21 : ¬ (J + 2 : Nat) < J + 1 := by omega
  have m21 : (J + 2 : Nat) ≠ J + 1 := by omega
  have m12 : (J + 1 : Nat) ≠ J + 2 := by omega
  have m10 : (J + 1 : Nat) ≠ J := by omega
  have hlow : ∀ b o, s.heap.get? b = some o → b < J := fun b o' e => by have := Heap.lt_size (st₁ _ _ e); rwa [hJ] at this
  have old2 : ∀ b o, H0.get? b = some o → h₂.get? b = some o := fun b o' e => by
    have hb := Heap.lt_size e
    rw [hH0s] at hb
    exact hsb₂.extBut b o' (Nat.ne_of_lt (Nat.lt_succ_of_lt hb)) (Heap.get?_push_of_some _ (hH1 ▸ Heap.get?_push_of_some _ e))
  have hacc₂ : h₂.PlainList (J + 1) #[] := ⟨_, hsb₂.extBut _ _ (Nat.ne_of_lt (Nat.lt_succ_self _)) (Heap.get?_push_of_some _ (hH1 ▸ hH0s ▸ Heap.get?_push_size _ rfl))⟩
  have hDf : J + 1 ∉ fp := fun hm => by
    rcases itr.fps _ hm with e | ⟨_, oo, ho, _⟩ | ⟨oo, ho, _⟩
    · exact absurd e (Nat.succ_ne_self _)
    · have := Heap.lt_size ho; rw [hH0s] at this; exact Nat.lt_irrefl _ this
    · have := Heap.lt_size ho; rw [hH0s] at this; exact Nat.lt_irrefl _ this
  have hCf : J + 2 ∉ fp := fun hm => by
    rcases itr.fps _ hm with e | ⟨_, oo, ho, _⟩ | ⟨oo, ho, _⟩
    · exact n20 e
    · have := Heap.lt_size ho; rw [hH0s] at this; exact n21 this
    · have := Heap.lt_size ho; rw [hH0s] at this; exact n21 this
  have hst₂ : St 0 h₂ := itr.walk.frame _ _ _ itr.start fun b _ o' e => old2 b o' e
  have hD0 : H0.get? (J + 1) = none := by
    cases e : H0.get? (J + 1) with
    | none => rfl
    | some o' => have := Heap.lt_size e; rw [hH0s] at this; exact absurd this (Nat.lt_irrefl _)
  have hC0 : H0.get? (J + 2) = none := by
    cases e : H0.get? (J + 2) with
    | none => rfl
    | some o' => have := Heap.lt_size e; rw [hH0s] at this; exact absurd this n21
  obtain ⟨oJ, hoJ, hnvJ⟩ := itr.itr 0 H0 itr.start
  -- from the heap with the iterator on
  have toSt : ∀ {h' : Heap}, (∀ b o', b ≠ J + 2 → b ≠ J + 1 → b ≠ J → H0.get? b = some o' → h'.get? b = some o') → StIn s.heap h' := by
    intro h' hk b o' e
    have := hlow b o' e
    obtain ⟨q1, q2, q3⟩ := low3 b this
    exact hk b o' q1 q2 q3 (stH b o' e)
  have toV : ∀ {h' : Heap}, (∀ b o', b ≠ J + 2 → b ≠ J + 1 → b ≠ J → H0.get? b = some o' → h'.get? b = some o') → ∀ Y, VKeep Y H0 h' := by
    intro h' hk Y
    have key : ∀ b o', isVal o' → H0.get? b = some o' → h'.get? b = some o' := by
      intro b o' hv e
      refine hk b o' ?_ ?_ ?_ e
      · rintro rfl; rw [hC0] at e; cases e
      · rintro rfl; rw [hD0] at e; cases e
      · rintro rfl; rw [hoJ] at e; cases e; exact hnvJ hv
    exact ⟨fun a o' _ hv e => key a o' hv e, fun a o' hv _ e => key a o' hv e⟩
  have loop : ∀ t, codeAny (model C.g.prog C.g.w) C.A (.compLoop (.ListComp elt [⟨.Name x px, iter, [], 0⟩] scope pos) 0 (.ref J) (.ref (J + 1)) (compEnvC scope cl (J + 2) C.env))
      (compPost (model C.g.prog C.g.w) C.A E none Q (.ref (J + 1)) (J + 2)) { s with heap := h₂, toks := t } := by
    intro t
    refine codeAny_compLoop_list (fun n s' => ∃ h' tk i m ys, s' = { s with heap := h', toks := tk } ∧ St i h' ∧ i ≤ xs.length ∧ n = xs.length + 1 - i ∧ h'.Ns (J + 2) m ∧ h'.PlainList (J + 1) (List.toArray ys) ∧ RelVs ((J + 1) :: X) h' (avs.take i) ys ∧
      (∀ b o', b ≠ J + 2 → b ≠ J + 1 → b ≠ J → H0.get? b = some o' → h'.get? b = some o')) ?_ (xs.length + 1)
      ⟨h₂, t, 0, _, [], rfl, hst₂, Nat.zero_le _, rfl, hns₂, hacc₂, rfl, fun b o' _ _ _ e => old2 b o' e⟩
    rintro n s' ⟨h', tk, i, m, ys, rfl, hst, hile, rfl, hns, hpl, hrel, hkp⟩
    obtain ⟨oI, hoI, hnvI⟩ := itr.itr i h' hst
    have step : ∀ {ha hb : Heap}, (∀ b o', b ≠ J → b ≠ J + 1 → b ≠ J + 2 → ha.get? b = some o' → hb.get? b = some o') → (∀ o', ha.get? J = some o' → ¬ isVal o') → (∀ o', ha.get? (J + 2) = some o' → ¬ isVal o') → (∀ o', ha.get? (J + 1) = some o' → o'.cls = .type "list") → VKeep ((J + 1) :: X) ha hb := by
      intro ha hb hk hj hc hd
      refine ⟨fun a o' hax hv e => ?_, fun a o' hv hcl e => ?_⟩
      · refine hk a o' ?_ ?_ ?_ e
        · rintro rfl; exact hj _ e hv
        · rintro rfl; exact hax List.mem_cons_self
        · rintro rfl; exact hc _ e hv
      · refine hk a o' ?_ ?_ ?_ e
        · rintro rfl; exact hj _ e hv
        · rintro rfl; exact hcl (hd _ e)
        · rintro rfl; exact hc _ e hv
    have nsNot : ∀ {h'' : Heap} {m''}, h''.Ns (J + 2) m'' → ∀ o', h''.get? (J + 2) = some o' → ¬ isVal o' := by
      rintro h'' m'' ⟨o₀, es, ep, ho₀, hd₀, _⟩ o' e hv
      rw [ho₀] at e; cases e
      rcases hv with ⟨_, _, q⟩ | ⟨_, _, q⟩ <;> rw [hd₀] at q <;> cases q
    have plL : ∀ {h'' : Heap} {it}, h''.PlainList (J + 1) it → ∀ o', h''.get? (J + 1) = some o' → o'.cls = .type "list" := by
      rintro h'' it ⟨n₀, e₀⟩ o' e
      rw [e₀] at e; cases e; rfl
    by_cases hlt : i < xs.length
    · refine itr.walk.item i _ _ _ hlt hst fun v' h₃ t₃ hP hst₃ hk₃ => ?_
      have hk₃' : ∀ b o', b ≠ J → h'.get? b = some o' → h₃.get? b = some o' := fun b o' hb e => hk₃ b o' (by simpa using hb) e
      obtain ⟨aw, haw, raw⟩ := itr.item i v' hP
      have hns₃ := hns.at' fun o' e => hk₃' _ o' n20 e
      have hpl₃ := hpl.at fun o' e => hk₃' _ o' m10 e
      have rel₃ := hrel.keep (step (fun b o' h1 _ _ e => hk₃' b o' h1 e) (fun o' e => by rw [hoI] at e; cases e; exact hnvI) (nsNot hns) (plL hpl))
      have kp₃ : ∀ b o', b ≠ J + 2 → b ≠ J + 1 → b ≠ J → H0.get? b = some o' → h₃.get? b = some o' := fun b o' h1 h2 h3 e => hk₃' b o' h3 (hkp b o' h1 h2 h3 e)
      obtain ⟨oI₃, hoI₃, hnvI₃⟩ := itr.itr (i + 1) h₃ hst₃
      refine wpAny_assign_Name (wpAny_storeName_local (lookup_relabel_local hx) hns₃ (fun h₄ hn₄ hs₄ => ?_) (by simp [compEnvC, relabel, hkind]))
      have hk₄ : ∀ b o', b ≠ J + 2 → h₃.get? b = some o' → h₄.get? b = some o' := fun b o' hb e => hs₄.extBut b o' hb e
      have hpl₄ := hpl₃.at fun o' e => hk₄ _ o' m12 e
      have rel₄ := rel₃.keep (step (fun b o' _ _ h1 e => hk₄ b o' h1 e) (fun o' e => by rw [hoI₃] at e; cases e; exact hnvI₃) (nsNot hns₃) (plL hpl₃))
      have kp₄ : ∀ b o', b ≠ J + 2 → b ≠ J + 1 → b ≠ J → H0.get? b = some o' → h₄.get? b = some o' := fun b o' h1 h2 h3 e => hk₄ b o' h1 (kp₃ b o' h1 h2 h3 e)
      have st₄ := toSt kp₄
      have hst₄ : St (i + 1) h₄ := itr.walk.frame _ _ _ hst₃ fun b hb o' e => hk₄ b o' (by rintro rfl; exact hCf hb) e
      have raw₄ : RelV ((J + 1) :: X) h₄ aw v' := (RelV.more hD0 aw v' raw).keep (toV kp₄ _)
      have rs₄ : RelS (C.comp scope cl (J + 2)).env ((J + 1) :: X) h₄ ⟨(x, aw) :: caps, none⟩ := by
        refine ⟨fun y av' e => ?_, fun _ _ e => by cases e⟩
        rcases lookup_capsA e with ⟨rfl, rfl⟩ | hmem
        · exact ⟨v', .inl ⟨lookup_relabel_local hx, _, hn₄, by simp⟩, raw₄⟩
        · obtain ⟨h1, h2, h3, h4, _⟩ := hcap _ hmem
          obtain ⟨w, hr, hw⟩ := rs.1 y av' h1
          rcases hr with ⟨hk', _⟩ | ⟨_, c', hc', hcl'⟩
          · have h2' : C.env.kindOf y = some .cell := h2
            rw [h2'] at hk'; cases hk'
          · refine ⟨w, .inr ⟨.inl h3, c', by rw [← hc']; exact h4, hcl'.keeps st₄⟩, ?_⟩
            have hDs : s.heap.get? (J + 1) = none := by
              cases e : s.heap.get? (J + 1) with
              | none => rfl
              | some o' => exact absurd (hlow _ _ e) n12
            exact (RelV.more hDs av' w hw).st st₄
      have xi₄ : XIn ((J + 1) :: X) h₄ := by
        intro a ha
        rcases List.mem_cons.mp ha with rfl | ha
        · obtain ⟨n₀, e₀⟩ := hpl₄; rw [e₀]; rfl
        · exact xi.st st₄ a ha
      refine (helt i aw haw (J + 2)).go (ok.comp hkind) ((J + 1) :: X) _ _ _ (p.st st₄) xi₄ rs₄ fun av₅ w₅ h₅ t₅ st₅ rv₅ hav₅ => ?_
      have hpl₅ := hpl₄.at fun o' e => st₅ _ o' e
      have hysl : ys.length = i := by rw [hrel.length, List.length_take]; omega
      refine wpAny_list_append_plain hpl₅ (fun h₆ hpl₆ hs₆ => ?_) (by rw [List.size_toArray, sizeLine_eq]; omega)
      have hk₆ : ∀ b o', b ≠ J + 1 → h₅.get? b = some o' → h₆.get? b = some o' := fun b o' hb e => hs₆.extBut b o' hb e
      have hns₅ := hn₄.at' fun o' e => st₅ _ o' e
      have hst₅ : St (i + 1) h₅ := itr.walk.frame _ _ _ hst₄ fun b hb o' e => st₅ b o' e
      obtain ⟨oI₅, hoI₅, hnvI₅⟩ := itr.itr (i + 1) h₅ hst₅
      have rel₅ := (RelVs.snoc (rel₄.st st₅) rv₅).keep (step (hb := h₆) (fun b o' _ h1 _ e => hk₆ b o' h1 e) (fun o' e => by rw [hoI₅] at e; cases e; exact hnvI₅) (nsNot hns₅) (plL hpl₅))
      refine ⟨xs.length + 1 - (i + 1), by omega, h₆, t₅, i + 1, _, ys ++ [w₅], rfl, ?_, hlt, rfl, hns₅.at' fun o' e => hk₆ _ o' m21 e, by simpa using hpl₆, ?_, fun b o' h1 h2 h3 e => hk₆ b o' h2 (st₅ b o' (kp₄ b o' h1 h2 h3 e))⟩
      · exact itr.walk.frame _ _ _ hst₅ fun b hb o' e => hk₆ b o' (by rintro rfl; exact hDf hb) e
      · rw [List.take_add_one, hav₅]; exact rel₅
    · have hie : i = xs.length := by omega
      refine itr.walk.done _ _ _ (by rw [← hie]; exact hst) fun h₃ t₃ hk₃ => ?_
      have hk₃' : ∀ b o', b ≠ J → h'.get? b = some o' → h₃.get? b = some o' := fun b o' hb e => hk₃ b o' (by simpa using hb) e
      have hns₃ := hns.at' fun o' e => hk₃' _ o' n20 e
      have hpl₃ := hpl.at fun o' e => hk₃' _ o' m10 e
      have rel₃ := hrel.keep (step (fun b o' h1 _ _ e => hk₃' b o' h1 e) (fun o' e => by rw [hoI] at e; cases e; exact hnvI) (nsNot hns) (plL hpl))
      refine ⟨_, hns₃, fun h₄ hs₄ => ?_⟩
      have hk₄ : ∀ b o', b ≠ J + 2 → h₃.get? b = some o' → h₄.get? b = some o' := fun b o' hb e => hs₄.extBut b o' hb e
      have hpl₄ := hpl₃.at fun o' e => hk₄ _ o' m12 e
      have rel₄ : RelVs ((J + 1) :: X) h₄ (avs.take i) ys := by
        refine rel₃.keep ⟨fun a o' hax hv e => ?_, fun a o' hv hcl e => ?_⟩
        · exact hk₄ a o' (by rintro rfl; exact nsNot hns₃ _ e hv) e
        · exact hk₄ a o' (by rintro rfl; exact nsNot hns₃ _ e hv) e
      rw [List.take_of_length_le (by omega)] at rel₄
      have kp₄ : ∀ b o', b ≠ J + 2 → b ≠ J + 1 → b ≠ J → H0.get? b = some o' → h₄.get? b = some o' := fun b o' h1 h2 h3 e => hk₄ b o' h1 (hk₃' b o' h3 (hkp b o' h1 h2 h3 e))
      refine k (.lst avs) _ h₄ t₃ (toSt kp₄) ⟨J + 1, ys, rfl, ?_, hpl₄.isList, rel₄.less fun q hq => List.mem_cons_of_mem _ hq⟩ φ
      intro hm
      have := xi _ hm
      obtain ⟨o', ho'⟩ := Option.isSome_iff_exists.mp this
      exact n12 (hlow _ _ ho')
  exact codeAny_compStart_list (loop _) (itr.walk.self 0 _ _ _ hst₂ (loop _))
end
set_option linter.unusedVariables false
theorem codeAny_call_cellsB {prog : Program} {w : World} {A : Around} {s : Shared} {R : Result → Shared → Prop} {a : Addr} {o : Obj} {fd : FuncData} {body : List Stmt} {vals : List Value} {binds : List (Str × Value)}
    (hroom : A.depth < recursionLimit) (ho : s.heap.get? a = some o) (hdata : o.data = .func fd) (hlim : s.heap.NoLimit) (hcd : s.heap.CodeRec fd.code fd.qualname)
    (hbody : fd.body = .stmts body) (hbind : BindsTo s fd ⟨vals, []⟩ binds) (hclo : fd.closure = [])
    (hkind : ∀ x ∈ binds, fd.scope.names.lookup x.1 = some .local ∨ (fd.scope.names.lookup x.1 = some .cell ∧ ((cellsFrom (s.heap.objs.size + 1) fd.scope.names []).lookup x.1).isSome = true))
    (h : ∀ s₁, InCallC s (callEnvC fd s.heap.objs.size a).locals (bindL (callEnvC fd s.heap.objs.size a).kindOf binds fun _ => none) (callEnvC fd s.heap.objs.size a).cells
        (bindC (callEnvC fd s.heap.objs.size a).kindOf binds fun _ => none) s₁ →
      wpAny (model prog w) (A.deeper (callEnvC fd s.heap.objs.size a)) (execs body (callEnvC fd s.heap.objs.size a)) (fun f s' => R (.ok (.ret (match f with | .ret v => v | _ => .none))) s')
        (fun e s' => wpAny (model prog w) (A.deeper (callEnvC fd s.heap.objs.size a)) (leaving (callEnvC fd s.heap.objs.size a) e) (fun _ s'' => R (.error e) s'') (fun e' s'' => R (.error e') s'') s') s₁)
    (hco : fd.scope.isCoroutine = false) (hgen : fd.scope.isGenerator = false) (hk : fd.scope.kind = .function) :
    codeAny (model prog w) A (.call (.ref a) ⟨vals, []⟩) R s := by
  refine codeAny_call_function hroom ho hdata hco hgen hbody hcd (hbind _ _ _ _ ?_)
  rw [hclo]
  refine wpAny_newFunctionEnv_cells hk hkind fun env he s' x => ?_
  subst he
  exact ⟨hlim.keeps x.toInCall.keep, codeAny_func (h s' x)⟩
theorem CallsV_ofB {g : GX} {n : Nat} {a : Addr} {ns : List Str} {body : List Stmt} {scope : Scope} {args : List AV} {Φ : AV → Prop}
    (hfd : ∀ h, PG g h → ∃ o d, h.get? a = some o ∧ o.data = .func d ∧ h.CodeRec d.code d.qualname ∧ d.body = .stmts body ∧ d.scope = scope ∧ d.closure = [] ∧ d.globals = mainGlobals ∧ d.builtins = builtinsNs ∧
      ∀ (vs : List Value) (s : Shared), s.heap = h → vs.length = args.length → BindsTo s d ⟨vs, []⟩ (ns.zip vs))
    (hlen : ns.length = args.length) (hp : parsOk ns scope = true) (hnd : ns.Nodup) (hk : scope.kind = .function) (hgen : scope.isGenerator = false) (hco : scope.isCoroutine = false)
    (hbody : ∀ (A : Around) (L : Addr) (qual : Str) (code : Value), Ex ⟨g, A, newEnv scope L mainGlobals (cellsFrom (L + 1) scope.names []) qual (some a) code none builtinsNs, n⟩ ⟨ns.zip args, none⟩ body fun fl _ => match fl with
      | .ret v => Φ v
      | .next => Φ .none
      | _ => False) : CallsV g (n + 1) (.ref a) args Φ := by
  refine ⟨fun A X s vs Q E ro p xi rv k => ?_⟩
  obtain ⟨o, d, ho, hd, hcd, hdb, hds, hdc, hdg, hdbl, hbind⟩ := hfd _ p
  have hvl : vs.length = args.length := rv.length
  have hb := hbind vs s rfl hvl
  have hdep := ro.depth
  have hun := ro.units
  have hzip1 : ∀ x ∈ ns.zip vs, x.1 ∈ ns := fun x hx => (List.of_mem_zip (a := x.1) (b := x.2) hx).1
  have hmapz : (ns.zip vs).map (·.1) = ns := by
    rw [List.map_fst_zip]; omega
  refine wpAny_call (codeAny_call_cellsB (by omega) ho hd p.top.nolimit hcd hdb hb hdc (fun x hx => by rw [hds]; exact parsOk_spec hp _ (hzip1 x hx)) (fun s₁ ic => ?_) (by rw [hds]; exact hco) (by rw [hds]; exact hgen) (by rw [hds]; exact hk))
  generalize hL : s.heap.objs.size = L at ic
  have henv : callEnvC d L a = newEnv scope L mainGlobals (cellsFrom (L + 1) scope.names []) (d.qualname ++ ".<locals>.") (some a) d.code none builtinsNs := by
    unfold callEnvC; rw [hds, hdg, hdbl]
  rw [henv] at ic ⊢
  generalize d.qualname ++ ".<locals>." = qual at *
  obtain ⟨h₁, tk₁, hs₁⟩ := ic.toInCall.same
  subst hs₁
  have st₁ : StIn s.heap h₁ := ic.toInCall.keep
  obtain ⟨lfr, hlfr⟩ := ro.fr
  let C : CX := ⟨g, A.deeper (newEnv scope L mainGlobals (cellsFrom (L + 1) scope.names []) qual (some a) d.code none builtinsNs), newEnv scope L mainGlobals (cellsFrom (L + 1) scope.names []) qual (some a) d.code none builtinsNs, n⟩
  have ok : C.Ok := by
    refine ⟨⟨ro.hh, ?_, ?_, ⟨_, Around.frames_deeper hlfr⟩⟩, hk, rfl, rfl, ⟨_, lfr, Around.frames_deeper hlfr, hgen, hco, rfl, rfl⟩⟩
    · show A.depth + 1 + n + 110 < recursionLimit; omega
    · show A.units + 3 + 16 * n + 100 < cLine; omega
  have FS1 : FS C s X none ⟨ns.zip args, none⟩ { s with heap := h₁, toks := tk₁ } := by
    refine ⟨⟨_, _, ic⟩, ?_, trivial, xi⟩
    intro x av e
    obtain ⟨v, hv, rx⟩ := lookup_zip (rv.st st₁) e
    refine ⟨v, ?_, by simpa using rx⟩
    have hxn : x ∈ ns := hzip1 (x, v) (mem_of_lookup hv)
    rcases parsOk_spec hp (L + 1) hxn with h1 | ⟨h1, h2⟩
    · exact .inl ⟨h1, _, ic.toInCall.ns, bindL_spec _ _ x v (by rw [hmapz]; exact hnd) hv h1⟩
    · obtain ⟨c, hc⟩ := Option.isSome_iff_exists.mp h2
      refine .inr ⟨.inl h1, c, hc, ?_⟩
      have := ic.cell x c hc
      rw [bindC_spec _ _ x v (by rw [hmapz]; exact hnd) hv h1] at this
      exact this
  refine wpAny_mono ((hbody _ L qual d.code).go ok s X none _ _ p FS1 fun afl fl S' β' h' tk F' fk bv rf ψ => ?_) (fun _ _ x => x) fun _ _ x => x.elim
  have keep := F'.keep
  cases afl with
  | ret av => obtain ⟨v, rfl, rv'⟩ := rf; exact k av v h' tk keep rv' ψ
  | next => obtain rfl : fl = .next := rf; exact k .none .none h' tk keep rfl ψ
  | brk => exact ψ.elim
  | cont => exact ψ.elim
set_option linter.unusedVariables false
theorem exists_rt : ∀ n : Nat, ∃ r, Rt ((n : Int) + 1) r
  | 0 => ⟨1, by decide, by decide, by decide⟩
  | n + 1 => by
    obtain ⟨r, h1, h2, h3⟩ := exists_rt n
    by_cases h : ((n + 1 : Nat) : Int) + 1 ≤ r * (r + 1)
    · exact ⟨r, h1, by omega, h⟩
    · have e1 : (r + 1) * (r + 1 - 1) = r * (r + 1) := by grind
      have e2 : (r + 1) * (r + 1 + 1) = r * (r + 1) + 2 * r + 2 := by grind
      exact ⟨r + 1, by omega, by rw [e1]; omega, by rw [e2]; omega⟩
noncomputable def rt (n : Int) : Int := Classical.epsilon fun r => Rt n r
theorem rt_spec {n : Int} (h : 0 < n) : Rt n (rt n) := by
  obtain ⟨r, hr⟩ := exists_rt (n - 1).toNat
  rw [show (((n - 1).toNat : Nat) : Int) + 1 = n by omega] at hr
  exact Classical.epsilon_spec (p := fun r => Rt n r) ⟨r, hr⟩
theorem rt_eq {n r : Int} (h : Rt n r) : rt n = r := (Classical.epsilon_spec (p := fun r => Rt n r) ⟨r, h⟩).uniq h
theorem rt_sq {m : Int} (h : 0 < m) : rt (m * m) = m := rt_eq ⟨h, by
  have : m * (m - 1) < m * m := Int.mul_lt_mul_of_pos_left (by omega) h
  exact this, Int.mul_le_mul_of_nonneg_left (by omega) (by omega)⟩

/-- the y of _ilog's loop after R turns -/
noncomputable def ys (M x : Int) : Nat → Int
  | 0 => x - M
  | R + 1 => dn (M * ys M x R * 2) (M + rt (M * (M + dn (ys M x R) (2 ^ R))))
/-- the w of its second loop -/
def hw (M u : Int) (T : Int) : Nat → Int
  | 0 => dn M T
  | j + 1 => dn M (T - 1 - j) - dn (u * hw M u T j) M

theorem dn_abs {a b : Int} (hb : 0 < b) : (dn a b).natAbs ≤ a.natAbs := by
  obtain ⟨h1, h2, _, _⟩ := dn_spec (a := a) hb
  apply Nat.le_of_not_lt
  intro h
  rcases Int.le_total 0 (dn a b) with hd | hd
  · have : b * (a.natAbs + 1 : Int) ≤ b * dn a b := Int.mul_le_mul_of_nonneg_left (by omega) (by omega)
    have h3 : (1 : Int) * a.natAbs ≤ b * a.natAbs := Int.mul_le_mul_of_nonneg_right (by omega) (by omega)
    rw [Int.mul_add, Int.mul_one] at this
    generalize b * dn a b = u at *
    generalize b * (a.natAbs : Int) = w at *
    omega
  · have : b * dn a b ≤ b * (-(a.natAbs + 1 : Int)) := Int.mul_le_mul_of_nonneg_left (by omega) (by omega)
    have h3 : (1 : Int) * a.natAbs ≤ b * a.natAbs := Int.mul_le_mul_of_nonneg_right (by omega) (by omega)
    rw [Int.mul_neg, Int.mul_add, Int.mul_one] at this
    generalize b * dn a b = u at *
    generalize b * (a.natAbs : Int) = w at *
    omega
theorem dn_bits {a b : Int} {m : Nat} (hb : 0 < b) (h : intBits a ≤ m) : intBits (dn a b) ≤ m := lt_bits (Nat.lt_of_le_of_lt (dn_abs hb) (bits_lt h))
theorem two_pos (k : Nat) : (0 : Int) < 2 ^ k := Int.pow_pos (by decide)
theorem go_le {M y : Int} {R L : Nat} (h : R ≤ L) : M ≤ y * 2 ^ (L - R) ↔ M * 2 ^ R ≤ y * 2 ^ L := by
  have e : y * 2 ^ L = y * 2 ^ (L - R) * 2 ^ R := by rw [Int.mul_assoc, ← Int.pow_add]; congr 2; omega
  rw [e]
  exact ⟨fun q => Int.mul_le_mul_of_nonneg_right q (Int.le_of_lt (two_pos R)), fun q => Int.le_of_mul_le_mul_right q (two_pos R)⟩
theorem go_gt {M y : Int} {R L : Nat} (h : L < R) : M ≤ y / 2 ^ (R - L) ↔ M * 2 ^ R ≤ y * 2 ^ L := by
  rw [Int.le_ediv_iff_mul_le (two_pos _)]
  have e : M * 2 ^ R = M * 2 ^ (R - L) * 2 ^ L := by rw [Int.mul_assoc, ← Int.pow_add]; congr 2; omega
  rw [e]
  exact ⟨fun q => Int.mul_le_mul_of_nonneg_right q (Int.le_of_lt (two_pos L)), fun q => Int.le_of_mul_le_mul_right q (two_pos L)⟩
theorem log_bits {M : Int} (hM : 0 < M) (h : M.natAbs.log2 < 1920) : intBits M ≤ 1920 := lt_bits ((Nat.log2_lt (by omega)).mp h)
variable {C : CX} {S : AS} {Ψ : AFl → AS → Prop}
theorem letGo_any {prog : Program} {w : World} {A : Around} {E : Value → Shared → Prop} {s : Shared} {elts : List Expr} {x1} {pos : Pos} {I T : Addr} {o : Obj} {n : String} {Q : Unit → Shared → Prop} (ho : s.heap.get? I = some o) (hc : o.cls = .type n) (hn : ownIters.contains n = false) (hQ : Q () s) :
    wpAny (model prog w) A (letOwnedTupleGo (.Tuple elts x1 pos) (.ref I) (.ref T)) Q E s := by
  unfold letOwnedTupleGo
  refine wpAny_bind (wpAny_load ho ?_)
  rw [hc]
  cases hd : o.data <;> try exact wpAny_pure hQ
  rename_i vs
  show wpAny _ A (if (ownIters.contains n && vs[0]? == some (rawInt T)) = true then _ else _) Q E s
  rw [if_neg (by rw [hn, Bool.false_and]; exact Bool.false_ne_true)]
  exact wpAny_pure hQ
/-- for, over names unpacked from a tuple -/
theorem ExS_forT {nps : List (Str × Pos)} {elts : List Expr} {k₀ : Nat} {tp pos : Pos} {iter : Expr} {body : List Stmt} (he : elts = nps.map fun p => Expr.Name p.1 p.2)
    (h : Ev C S iter fun av => ∃ xs, Items av xs ∧ ∃ I : Nat → AS → Prop, (∃ S₀, S.le S₀ ∧ I 0 S₀) ∧
      (∀ i S av, xs[i]? = some av → I i S → ∃ l, av = .tup l ∧ l.length = nps.length ∧ (∀ x ∈ nps, Stb C S x.1) ∧ Ex C (S.sets (nps.map (·.1)) l) body fun fl S' => match fl with
        | .next => ∃ S'', S'.le S'' ∧ I (i + 1) S''
        | .cont => ∃ S'', S'.le S'' ∧ I (i + 1) S''
        | .brk => Ψ .next S'
        | .ret v => Ψ (.ret v) S') ∧ (∀ S, I xs.length S → Ψ .next S))
    (hs : ∀ x, foldedSetIterable iter C.env x = pure x := by intro _; rfl) : ExS C S (.For (.Tuple elts k₀ tp) iter body [] pos) Ψ := by
  refine ⟨fun ok s₀ X₀ β s Q p F k => ?_⟩
  refine wpAny_For (h.go ok _ s _ _ (p.st F.keep) F.xinh F.relS fun av v h₁ t₁ st₁ rv hyp => ?_) hs
  obtain ⟨xs, hit, I, ⟨S₀, hle0, hI0⟩, hturn, hend⟩ := hyp
  refine iter_go ok hit rv fun fp P St o itr hfree => ?_
  have F₁ : FS C s₀ X₀ β S { s with heap := h₁.push o, toks := t₁ } := F.st (st₁.trans (StIn.push _ _))
  generalize hIaddr : h₁.objs.size = J at itr
  -- what is kept: relative to the heap with the iterator
  have hJ : (h₁.push o).get? J = some o := by rw [← hIaddr]; exact Heap.get?_push_size _ hfree
  have hJnone : h₁.get? J = none := by
    cases e : h₁.get? J with
    | none => rfl
    | some o' => have := Heap.lt_size e; rw [hIaddr] at this; exact absurd this (Nat.lt_irrefl _)
  have hJs : s.heap.get? J = none := by
    cases e : s.heap.get? J with
    | none => rfl
    | some o' => rw [st₁ _ _ e] at hJnone; cases hJnone
  refine codeAny_forLoop_any (fun n s' => ∃ h' tk S' β' i, s' = { s with heap := h', toks := tk } ∧ FS C s₀ X₀ β' S' s' ∧ FKeep C β s.heap h' ∧ BEv β s.heap β' ∧ (∀ b, β' = some b → β = some b ∨ (h₁.push o).get? b = none) ∧
      VKeep (β.toList ++ X₀) (h₁.push o) h' ∧ (∀ a oa, a ≠ C.env.locals → (∀ x, C.env.cells.lookup x ≠ some a) → β ≠ some a → a ≠ J → (h₁.push o).get? a = some oa → h'.get? a = some oa) ∧ St i h' ∧ i ≤ xs.length ∧ n = xs.length + 1 - i ∧ I i S') ?_ (xs.length + 1)
    ⟨h₁.push o, t₁, S₀, β, 0, rfl, F₁.weak hle0, .of (st₁.trans (StIn.push _ _)), .refl _ _, (fun b e => .inl e), .refl _ _, (fun _ _ _ _ _ _ e => e), itr.start, Nat.zero_le _, rfl, hI0⟩
  rintro n s' ⟨h', tk, S', β', i, rfl, F', fk, bv, bo, vk, lk, hst, hle, rfl, hI⟩
  -- the iterator is none of the frame's
  have hJL : J ≠ C.env.locals := by
    rintro rfl
    obtain ⟨m, hn⟩ := F.ffr.loc
    obtain ⟨o', _, _, ho', _⟩ := hn
    rw [ho'] at hJs; cases hJs
  have hJc : ∀ y, C.env.cells.lookup y ≠ some J := by
    intro y e
    obtain ⟨w, o', ho', _⟩ := F.ffr.cel y J e
    rw [ho'] at hJs; cases hJs
  have hJb : β' ≠ some J := by
    intro e
    rcases bo J e with e | e
    · obtain ⟨vs, n, ho'⟩ := F.ffr.own J e
      rw [ho'] at hJs; cases hJs
    · rw [hJ] at e; cases e
  have kp : ∀ {h'' : Heap}, (∀ b o, b ∉ [J] → h'.get? b = some o → h''.get? b = some o) → ∀ tk, FS C s₀ X₀ β' S' { s with heap := h'', toks := tk } ∧ FKeep C β s.heap h'' ∧ VKeep (β.toList ++ X₀) (h₁.push o) h'' := by
    intro h'' hk tk
    have hkJ : ∀ b o, b ≠ J → h'.get? b = some o → h''.get? b = some o := fun b o hb e => hk b o (by simpa using hb) e
    obtain ⟨oi, hoi, hnv⟩ := itr.itr i h' hst
    have vk2 : ∀ X, VKeep X h' h'' := fun X => ⟨fun a o _ hv e => hkJ a o (by rintro rfl; rw [e] at hoi; cases hoi; exact hnv hv) e, fun a o hv _ e => hkJ a o (by rintro rfl; rw [e] at hoi; cases hoi; exact hnv hv) e⟩
    refine ⟨?_, ?_, vk.trans (vk2 _)⟩
    · obtain ⟨m, cm, c⟩ := F'.call
      have hrd : ∀ y w, Rd C.env h' y w → Rd C.env h'' y w := by
        rintro y w (⟨hk', m', hn, hw⟩ | ⟨hk', c', hc', hw⟩)
        · exact .inl ⟨hk', m', hn.at' fun o e => hkJ _ o (Ne.symm hJL) e, hw⟩
        · obtain ⟨o', ho', hd'⟩ := hw
          exact .inr ⟨hk', c', hc', o', hkJ _ _ (fun q => hJc y (q ▸ hc')) ho', hd'⟩
      refine ⟨⟨m, cm, ⟨⟨?_, c.toInCall.ns.at' fun o e => hkJ _ o (Ne.symm hJL) e, fun b o e => ?_, c.toInCall.fresh⟩, fun y a e => ?_, c.apart, c.above⟩⟩, ?_, ?_, F'.xin⟩
      · obtain ⟨h₁, tk₁, e⟩ := F.same
        exact ⟨h'', tk, by rw [e]⟩
      · refine hkJ b o ?_ (c.toInCall.keep b o e)
        rintro rfl
        rw [F.keep _ _ e] at hJs; cases hJs
      · obtain ⟨o', ho', hd'⟩ := c.cell y a e
        exact ⟨o', hkJ _ _ (fun q => hJc y (q ▸ e)) ho', hd'⟩
      · exact fun y aw e => let ⟨w, h1, h2⟩ := F'.vars y aw e; ⟨w, hrd y w h1, h2.keep (vk2 _)⟩
      · have h := F'.own
        show OwnOk C s₀ X₀ h'' S'.own β'
        cases ho : S'.own with
        | none => rw [ho] at h; cases β' with | none => trivial | some _ => exact h
        | some q =>
          rw [ho] at h
          cases β' with
          | none => exact h
          | some b =>
            obtain ⟨⟨vs, ow⟩, h1⟩ := h
            exact ⟨⟨vs, hrd _ _ ow.rd, ow.inX, ow.lst.at fun o e => hkJ b o (by rintro rfl; exact hJb rfl) e, ow.rel.keep (vk2 _)⟩, h1⟩
    · intro a oa h1 h2 h3 e
      refine hkJ a oa ?_ (fk a oa h1 h2 h3 e)
      rintro rfl; rw [hJs] at e; cases e
  by_cases hlt : i < xs.length
  · refine itr.walk.item i _ _ _ hlt hst fun w h₂ t₂ hP hst₂ hk₂ => ?_
    obtain ⟨F₂, fk₂, vk₂⟩ := kp hk₂ t₂
    obtain ⟨aw, haw, raw⟩ := itr.item i w hP
    obtain ⟨lt, hlt1, hlt2, hstb, hbody⟩ := hturn i S' aw haw hI
    have rw₂ : RelV (β'.toList ++ X₀) h₂ aw w := by
      cases hb : β' with
      | none => exact (raw.keep vk₂).less fun q hq => List.mem_append_right _ (by simpa using hq)
      | some b =>
        rcases bo b hb with e | e
        · rw [← e]; exact raw.keep vk₂
        · have r1 : RelV (b :: (β.toList ++ X₀)) (h₁.push o) aw w := RelV.more e aw w raw
          have r2 := r1.keep (vk₂.sub fun q hq => List.mem_cons_of_mem _ hq)
          exact r2.less fun q hq => by
            rcases List.mem_append.mp hq with hq | hq
            · obtain rfl : q = b := by simpa using hq
              exact List.mem_cons_self
            · exact List.mem_cons_of_mem _ (List.mem_append_right _ hq)
    rw [hlt1] at rw₂
    obtain ⟨ta, tvs, rfl, htup, hrel⟩ := rw₂
    obtain ⟨oJ, nJ, hoJ, hcJ, hnJ⟩ := itr.cls _ _ hst₂
    refine letGo_any hoJ hcJ hnJ ?_
    refine unpack_go (nps := nps) ok F₂ htup hrel hlt2 hstb he fun h₃ t₃ F₃ fk₃ => ?_
    refine wpAny_mono (hbody.go ok s₀ X₀ β' _ _ p F₃ fun afl fl S₄ β₄ h₄ t₄ F₄ fk₄ bv₄ rf ψ => ?_) (fun _ _ q => q) fun _ _ q => q.elim
    have fk23 : FKeep C β' h₂ h₄ := fk₃.trans (.refl _ _) fk₄
    have fk' : FKeep C β s.heap h₄ := fk₂.trans bv fk23
    have bv24 : BEv β' h₂ β₄ := BEv.trans (.refl _ _) bv₄ fk₃ F₃.ffr
    have bv' : BEv β s.heap β₄ := bv.trans bv24 fk₂ F₂.ffr
    have hst₄ : St (i + 1) h₄ := itr.walk.frame _ _ _ hst₂ fun b hb ob e => by
      rcases itr.fps b hb with rfl | ⟨hx, oo, ho, hv⟩ | ⟨oo, ho, hv, hcl⟩
      · exact fk23 _ _ hJL hJc hJb e
      · have e2 := vk₂.off b oo hx hv ho
        rw [e] at e2; cases e2
        refine (fk23.vkeep (X₀ := X₀) F₂.ffr).off b _ (fun q => ?_) hv e
        rcases List.mem_append.mp q with q | q
        · cases hbb : β' with
          | none => rw [hbb] at q; cases q
          | some b' =>
            rw [hbb] at q
            obtain rfl : b = b' := by simpa using q
            rcases bo _ hbb with h1 | h1
            · exact hx (by rw [h1]; simp)
            · rw [ho] at h1; cases h1
        · exact hx (List.mem_append_right _ q)
      · have e2 := vk₂.imm b oo hv hcl ho
        rw [e] at e2; cases e2
        exact (fk23.vkeep (X₀ := X₀) F₂.ffr).imm b _ hv hcl e
    have vk' : VKeep (β.toList ++ X₀) (h₁.push o) h₄ := by
      have v4 := fk23.vkeep (X₀ := X₀) F₂.ffr
      refine ⟨fun a oa ha hv e => v4.off a oa (fun q => ?_) hv (vk₂.off a oa ha hv e), fun a oa hv hc e => v4.imm a oa hv hc (vk₂.imm a oa hv hc e)⟩
      rcases List.mem_append.mp q with q | q
      · cases hbb : β' with
        | none => rw [hbb] at q; cases q
        | some b' =>
          rw [hbb] at q
          obtain rfl : a = b' := by simpa using q
          rcases bo _ hbb with h1 | h1
          · exact ha (by rw [h1]; simp)
          · rw [e] at h1; cases h1
      · exact ha (List.mem_append_right _ q)
    have bo' : ∀ b, β₄ = some b → β = some b ∨ (h₁.push o).get? b = none := by
      intro b hb
      by_cases h3 : β = some b
      · exact .inl h3
      rcases bv24 b hb with e | e
      · exact bo b e
      · cases hq : (h₁.push o).get? b with
        | none => exact .inr rfl
        | some oq =>
          exfalso
          by_cases hbJ : b = J
          · subst hbJ
            obtain ⟨oi, hoi, _⟩ := itr.itr (i + 1) h₂ hst₂
            rw [hoi] at e; cases e
          · by_cases h1 : b = C.env.locals
            · obtain ⟨m, o', _, _, ho', _⟩ := F₂.ffr.loc
              rw [h1, ho'] at e; cases e
            · by_cases h2 : ∃ y, C.env.cells.lookup y = some b
              · obtain ⟨y, h2⟩ := h2
                obtain ⟨v, o', ho', _⟩ := F₂.ffr.cel y b h2
                rw [ho'] at e; cases e
              · have hkJ := hk₂ b oq (by simpa using hbJ) (lk b oq h1 (fun y hy => h2 ⟨y, hy⟩) h3 hbJ hq)
                rw [hkJ] at e; cases e
    have lk' : ∀ a oa, a ≠ C.env.locals → (∀ x, C.env.cells.lookup x ≠ some a) → β ≠ some a → a ≠ J → (h₁.push o).get? a = some oa → h₄.get? a = some oa := by
      intro a oa h1 h2 h3 h4 e
      refine fk23 a oa h1 h2 (fun hb => ?_) (hk₂ a oa (by simpa using h4) (lk a oa h1 h2 h3 h4 e))
      rcases bo a hb with q | q
      · exact h3 q
      · rw [e] at q; cases q
    have hn' : xs.length + 1 - (i + 1) < xs.length + 1 - i := by omega
    cases afl with
    | next => obtain rfl : fl = .next := rf; obtain ⟨S'', hle', hI'⟩ := ψ; exact ⟨_, hn', h₄, t₄, S'', β₄, i + 1, rfl, F₄.weak hle', fk', bv', bo', vk', lk', hst₄, hlt, rfl, hI'⟩
    | cont => obtain rfl : fl = .cont := rf; obtain ⟨S'', hle', hI'⟩ := ψ; exact ⟨_, hn', h₄, t₄, S'', β₄, i + 1, rfl, F₄.weak hle', fk', bv', bo', vk', lk', hst₄, hlt, rfl, hI'⟩
    | brk => obtain rfl : fl = .brk := rf; exact k .next .next S₄ β₄ h₄ t₄ F₄ fk' bv' rfl ψ
    | ret av => obtain ⟨v, rfl, rv⟩ := rf; exact k (.ret av) (.ret v) S₄ β₄ h₄ t₄ F₄ fk' bv' ⟨v, rfl, rv⟩ ψ
  · have hin : i = xs.length := by omega
    subst hin
    refine itr.walk.done _ _ _ hst fun h₂ t₂ hk₂ => wpAny_execs_nil ?_
    obtain ⟨F₂, fk₂, _⟩ := kp hk₂ t₂
    exact k .next .next S' β' h₂ t₂ F₂ fk₂ bv rfl (hend S' hI)
set_option maxHeartbeats 4000000
set_option linter.unusedVariables false

/-- the frames of the stack stand -/
structure FrOk (l : List Env) (h : Heap) : Prop where
  ok : ∀ env ∈ l, env.scope.kind ≠ .module ∧ ∃ L o es ep, env.frame = some L ∧ h.get? L = some o ∧ o.data = .dict es ep
theorem FrOk.st {l : List Env} {h h' : Heap} (x : FrOk l h) (k : StIn h h') : FrOk l h' := ⟨fun env he => let ⟨h1, L, o, es, ep, h2, h3, h4⟩ := x.ok env he; ⟨h1, L, o, es, ep, h2, k _ _ h3, h4⟩⟩
abbrev frs (l : List Env) : List Addr := l.filterMap (·.frame)
theorem FrOk.fun {l : List Env} {h : Heap} (x : FrOk l h) : h.FunFrames (hideAll h (frs l)) l := by
  have key : ∀ l' : List Env, (∀ env ∈ l', env ∈ l) → h.FunFrames (hideAll h (frs l)) l' := by
    intro l'
    induction l' with
    | nil => intro _; trivial
    | cons env r ih =>
      intro hs
      obtain ⟨h1, L, o, es, ep, h2, h3, h4⟩ := x.ok env (hs env List.mem_cons_self)
      exact ⟨h1, ⟨L, o, h2, hideAll_none _ (List.mem_filterMap.mpr ⟨env, hs env List.mem_cons_self, h2⟩), h3, fun vs q => by rw [h4] at q; cases q⟩, ih fun e he => hs e (List.mem_cons_of_mem _ he)⟩
  exact key l fun _ h => h

/-- an exception on its way out -/
structure Thrown (h₀ : Heap) (l : List Env) (X : String) (msg : Str) (e t : Addr) (u : Tok) (base h' : Heap) : Prop where
  bas : ∀ b o, h₀.get? b = some o → b ∉ frs l → base.get? b = some o
  fly : Heap.FlyingW base l e (.type X) (.ref t) h'
  tup : h'.TupAt t [.str msg u]
  up : h₀.UpToSlots h'

/-- a call that raises -/
structure RaisesV (g : GX) (n : Nat) (f : Value) (args : List AV) (X : String) (msg : Str) : Prop where
  go : ∀ (A : Around) (l : List Env) (Xs : List Addr) (s : Shared) (vs : List Value) (Q : Value → Shared → Prop) (E : Value → Shared → Prop), A.frames = some l → Room A n → FrOk l s.heap → PG g s.heap → XIn Xs s.heap → RelVs Xs s.heap args vs →
    (∀ e t u base h' tk, Thrown s.heap l X msg e t u base h' → E (.ref e) { s with heap := h', toks := tk }) → wpAny (model g.prog g.w) A (call f vs) Q E s
def Raises (g : GX) (n : Nat) (f : Str) (args : List AV) (X : String) (msg : Str) : Prop := ∃ a, FnIs g f a ∧ RaisesV g n (.ref a) args X msg

/-- statements that end in a raise of their own -/
structure ExR (C : CX) (S : AS) (st : List Stmt) (X : String) (msg : Str) : Prop where
  go : C.Ok → ∀ (s₀ : Shared) (X₀ : List Addr) (β : Option Addr) (s : Shared) (Q : Flow → Shared → Prop) (E : Value → Shared → Prop), PG C.g s₀.heap → FS C s₀ X₀ β S s →
    (∀ e u h₁ h' tk, FS C s₀ X₀ β S { s with heap := h₁, toks := tk } → Heap.MadeExc h₁ h' e X [.str msg u] → E (.ref e) { s with heap := h', toks := tk }) →
    wpAny (model C.g.prog C.g.w) C.A (execs st C.env) Q E s

theorem boot_VE : bootBuiltins "ValueError" = some (.type "ValueError") := by decide +kernel
theorem ExR_raise {C : CX} {S : AS} {np cp pos kp : Pos} {k₀ : Nat} {msg : Str} {rest : List Stmt} (hx : C.env.kindOf "ValueError" = some .globalImplicit) :
    ExR C S (.Raise (some (.Call (.Name "ValueError" np) [.Constant (.str msg) k₀ kp] [] cp)) none pos :: rest) "ValueError" msg := by
  refine ⟨fun ok s₀ X₀ β s Q E p F k => ?_⟩
  refine wpAny_execs_cons (Raise_madeB PySem.F.excCall_ValueError PySem.F.excRaise_ValueError ok.room.hh ?_ rfl rfl)
  have p' := p.st F.keep
  refine Calls.Name_function_global ok.kind hx (Calls.loadGlobal_builtin (by rw [ok.glob]; exact p'.top.g) (C.g.nob _ (by decide)) (by rw [ok.blt]; exact p'.top.b) ((p'.top.builtins _ (by decide)).trans boot_VE) ?_) (by decide)
  refine ⟨rfl, ?_⟩
  refine (Evs_cons (C := C) (S := S) (Φ := fun l => l = [.str msg]) (Ev_const_str (Evs_nil rfl))).go ok cp _ s _ E p' F.xinh F.relS fun avs vs h₁ t₁ st₁ r hl e => ?_
  subst e
  obtain ⟨v, r', rfl, ⟨u, rfl⟩, rfl⟩ := r
  refine ⟨by rw [sizeLine_eq]; exact (show (1 : Nat) ≤ _ by decide), fun h' e hm => ?_⟩
  exact k e u h₁ h' t₁ (F.st st₁) hm
theorem ExR_if {C : CX} {S : AS} {t : Expr} {a b rest : List Stmt} {pos : Pos} {X : String} {msg : Str} (h : Tst C S t fun c => c = true) (ha : ExR C S a X msg) : ExR C S (.If t a b pos :: rest) X msg := by
  refine ⟨fun ok s₀ X₀ β s Q E p F k => ?_⟩
  refine wpAny_execs_cons (wpAny_If (h.go ok _ s _ _ (p.st F.keep) F.xinh F.relS fun c h₁ t₁ st₁ φ => ?_))
  subst φ
  exact ha.go ok s₀ X₀ β _ _ E p (F.st st₁) fun e u h₂ h' tk F' hm => k e u h₂ h' tk F' hm

theorem frame_self (scope : Scope) (L : Addr) (cells : List (Str × Addr)) (qual : Str) (a : Option Addr) (code : Value) : (newEnv scope L mainGlobals cells qual a code none builtinsNs).frame = some L := rfl

/-- a plain def of the text that raises -/
theorem Raises_of {g : GX} {n : Nat} {f : Str} {params : Arguments} {pos : Pos} {ns : List Str} {body : List Stmt} {scope : Scope} {args : List AV} {X : String} {msg : Str}
    (hd : (⟨f, params, body, scope, pos⟩ : DefRec) ∈ recsOf g.p)
    (hbind : ∀ (vs : List Value) (pm cd doc : Value), vs.length = args.length → bindArgs (Calls.docDef f params body scope pm cd doc) ⟨vs, []⟩ = pure (ns.zip vs))
    (hlen : ns.length = args.length) (hp : parsOk ns scope = true) (hnd : ns.Nodup) (hk : scope.kind = .function) (hgen : scope.isGenerator = false) (hco : scope.isCoroutine = false)
    (hbody : ∀ (A : Around) (L a : Addr) (qual : Str) (code : Value), ExR ⟨g, A, newEnv scope L mainGlobals (cellsFrom (L + 1) scope.names []) qual (some a) code none builtinsNs, n⟩ ⟨ns.zip args, none⟩ body X msg) : Raises g (n + 1) f args X msg := by
  obtain ⟨h, T, _⟩ := g.inh
  obtain ⟨a, o, pm, code, doc, h1, _⟩ := T.fn _ hd
  have at_ : ∀ h, PG g h → ∃ o pm code doc, h.get? a = some o ∧ o.data = .func (Calls.docDef f params body scope pm code doc) ∧ h.CodeRec code f := by
    intro h p
    obtain ⟨a', o, pm, code, doc, h1', h2, h3, h4⟩ := p.top.fn _ hd
    rw [h1] at h1'; cases h1'
    exact ⟨o, pm, code, doc, h2, h3, h4⟩
  refine ⟨a, ⟨h1, fun h p => let ⟨o, pm, code, doc, q1, q2, _⟩ := at_ h p; ⟨o, _, q1, q2⟩⟩, ⟨fun A l Xs s vs Q E hfr ro fo p xi rv k => ?_⟩⟩
  obtain ⟨o, pm, code, doc, ho, hd, hcd⟩ := at_ _ p
  have hvl : vs.length = args.length := rv.length
  have hb := hbind vs pm code doc hvl
  have hdep := ro.depth
  have hun := ro.units
  have hzip1 : ∀ x ∈ ns.zip vs, x.1 ∈ ns := fun x hx => (List.of_mem_zip (a := x.1) (b := x.2) hx).1
  have hmapz : (ns.zip vs).map (·.1) = ns := by
    rw [List.map_fst_zip]; omega
  refine wpAny_call (codeAny_call_cells (by omega) ho hd p.top.nolimit hcd rfl hb rfl (fun x hx => parsOk_spec hp _ (hzip1 x hx)) (fun s₁ ic => ?_) hco hgen hk)
  generalize hL : s.heap.objs.size = L at ic
  have henv : callEnvC (Calls.docDef f params body scope pm code doc) L a = newEnv scope L mainGlobals (cellsFrom (L + 1) scope.names []) (f ++ ".<locals>.") (some a) code none builtinsNs := rfl
  rw [henv] at ic ⊢
  generalize f ++ ".<locals>." = qual at *
  obtain ⟨h₁, tk₁, hs₁⟩ := ic.toInCall.same
  subst hs₁
  have st₁ : StIn s.heap h₁ := ic.toInCall.keep
  let C : CX := ⟨g, A.deeper (newEnv scope L mainGlobals (cellsFrom (L + 1) scope.names []) qual (some a) code none builtinsNs), newEnv scope L mainGlobals (cellsFrom (L + 1) scope.names []) qual (some a) code none builtinsNs, n⟩
  have ok : C.Ok := by
    refine ⟨⟨ro.hh, ?_, ?_, ⟨_, Around.frames_deeper hfr⟩⟩, hk, rfl, rfl, ⟨_, l, Around.frames_deeper hfr, hgen, hco, rfl, rfl⟩⟩
    · show A.depth + 1 + n + 110 < recursionLimit; omega
    · show A.units + 3 + 16 * n + 100 < cLine; omega
  have FS1 : FS C s Xs none ⟨ns.zip args, none⟩ { s with heap := h₁, toks := tk₁ } := by
    refine ⟨⟨_, _, ic⟩, ?_, trivial, xi⟩
    intro x av e
    obtain ⟨v, hv, rx⟩ := lookup_zip (rv.st st₁) e
    refine ⟨v, ?_, by simpa using rx⟩
    have hxn : x ∈ ns := hzip1 (x, v) (mem_of_lookup hv)
    rcases parsOk_spec hp (L + 1) hxn with h1 | ⟨h1, h2⟩
    · exact .inl ⟨h1, _, ic.toInCall.ns, bindL_spec _ _ x v (by rw [hmapz]; exact hnd) hv h1⟩
    · obtain ⟨c, hc⟩ := Option.isSome_iff_exists.mp h2
      refine .inr ⟨.inl h1, c, hc, ?_⟩
      have := ic.cell x c hc
      rw [bindC_spec _ _ x v (by rw [hmapz]; exact hnd) hv h1] at this
      exact this
  refine (hbody _ L a qual code).go ok s Xs none _ _ _ p FS1 fun e u h₂ h' tk F' hm => ?_
  have keep : StIn s.heap h₂ := F'.keep
  have fo₂ : FrOk (C.env :: l) h₂ := ⟨fun env he => by
    rcases List.mem_cons.mp he with rfl | he
    · obtain ⟨m, cm, c⟩ := F'.call
      obtain ⟨o', es, ep, ho', hd', _⟩ := c.toInCall.ns
      exact ⟨by show scope.kind ≠ .module; rw [hk]; decide, L, o', es, ep, rfl, ho', hd'⟩
    · exact (fo.st keep).ok env he⟩
  have hLn : s.heap.get? L = none := by
    cases e : s.heap.get? L with
    | none => rfl
    | some o' => have := Heap.lt_size e; rw [hL] at this; exact absurd this (Nat.lt_irrefl _)
  refine wpAny_leaves_madeW (h := h₂) (env := C.env) (L := L) (outer := l) (base := hideAll h₂ (frs (C.env :: l))) (Around.frames_deeper hfr) rfl (fun b o' q => of_hideAll _ q) fo₂.fun hm.of fun h'' t x1 x2 x3 x4 => ?_
  refine k e t u _ h'' tk ⟨fun b o' q nb => hideAll_get _ (keep b o' q) fun hmem => ?_, x1, x2, ((Heap.UpToSlots.of_keeps keep).trans (Heap.UpToSlots.of_keeps hm.keeps)).trans x4⟩
  rcases List.mem_cons.mp (show b ∈ L :: frs l from hmem) with rfl | hmem
  · rw [hLn] at q; cases q
  · exact nb hmem

/-- try: f(..) .. except ValueError as n: ..; the call raises -/
theorem try_go {C : CX} {S : AS} {s₀ s : Shared} {X₀ : List Addr} {β : Option Addr} {l : List Env} {h₀ : Heap} {f n msg : Str} {fp cpos epos np hpos tpos : Pos} {args : List Expr} {more suite : List Stmt} {b₀ : Stmt} {fl : Flow} {nn : Nat} {Q : Flow → Shared → Prop} {E : Value → Shared → Prop}
    (ok : C.Ok) (hfr : C.A.frames = some (C.env :: l)) (fo : FrOk (C.env :: l) s.heap) (hLf : C.env.frame = some C.env.locals) (p₀ : PG C.g h₀) (k₀ : StIn h₀ s.heap) (hn₀ : ∀ b ∈ frs (C.env :: l), h₀.get? b = none)
    (F : FS C s₀ X₀ β S s) (p : PG C.g s₀.heap) (hn : nn ≤ C.n) (hx : C.env.kindOf f = some .globalImplicit) (hv : C.env.kindOf "ValueError" = some .globalImplicit) (hlo : C.env.kindOf n = some .local) (hg : ∃ a, FnIs C.g f a)
    (hargs : Evs C S args fun avs => Raises C.g nn f avs "ValueError" msg)
    (hsuite : ∀ (A' : Around) (s' : Shared) (e t : Addr) (u : Tok) (m : Str → Option Value) (Q' : Flow → Shared → Prop) (E' : Value → Shared → Prop), A'.units = C.A.units → PG C.g s'.heap → s'.heap.Ns C.env.locals m → m n = some (.ref e) → s'.heap.ExcAt e "ValueError" (.ref t) → s'.heap.TupAt t [.str msg u] →
      (∀ tk, Q' fl { s' with toks := tk }) → wpAny (model C.g.prog C.g.w) A' (execs (b₀ :: suite) C.env) Q' E' s')
    (k : ∀ h' tk v m, s.heap.Ns C.env.locals m → h'.Ns C.env.locals (fun x => if x = n then v else m x) → (∀ b o, s.heap.get? b = some o → b ∉ frs (C.env :: l) → h'.get? b = some o) → (∀ b o, b ≠ C.env.locals → s.heap.get? b = some o → (∀ vs, o.data ≠ .fields vs) → ∃ sl, h'.get? b = some { o with slots := sl }) →
      Q fl { s with heap := h', toks := tk })
    (ha : ∃ x r, starEach args C.env = (false, x) :: r ∧ (starEach args C.env).any (·.1) = false := by exact ⟨_, _, rfl, rfl⟩)
    (hint : interactive C.env = false := by rfl) (hsw : swapsWith (.Call (.Name f fp) args [] cpos) none epos.line C.env = pure false := by rfl)
    (hd : (f == ("__debug__" : Str)) = false := by decide) :
    wpAny (model C.g.prog C.g.w) C.A (exec (.Try (.Expr (.Call (.Name f fp) args [] cpos) epos :: more) [.ExceptHandler (some (.Name "ValueError" np)) (some n) (b₀ :: suite) hpos] [] [] tpos) C.env) Q E s := by
  refine wpAny_Try_except (wpAny_execs_cons (wpAny_Expr ?_ hint hsw))
  obtain ⟨x, r, he, hany⟩ := ha
  obtain ⟨a, hfa, hfo⟩ := hg
  have p1 := p.st F.keep
  refine wpAny_Call_Name_kw ?_
  refine Calls.Name_function_global ok.kind hx (Calls.loadGlobal_global (by rw [ok.glob]; exact p1.top.g) hfa ?_) hd
  have hb' : ∃ x' r', backTo cpos (starEach args C.env) = (false, x') :: r' := by rw [he]; exact ⟨_, _, rfl⟩
  obtain ⟨x', r', hb'⟩ := hb'
  obtain ⟨o, fd, ho, hd⟩ := hfo _ p1
  refine Calls.callWith_function (o := o) (fd := fd) ?_
  rw [hb']
  refine Calls.evalArgs_plain ?_
  rw [← hb']
  refine hargs.go ok cpos _ s _ _ p1 F.xinh F.relS fun avs vs h₁ t₁ st₁ ra _ hc => ?_
  obtain ⟨a', ⟨hfa', _⟩, hc⟩ := hc
  rw [hfa] at hfa'
  cases hfa'
  refine ⟨⟨st₁ _ _ ho, hd⟩, hc.go C.A (C.env :: l) _ _ vs _ _ hfr (ok.room.le hn) (fo.st st₁) (p1.st st₁) (F.xinh.st st₁) ra fun e t u base h' tk T => ?_⟩
  refine wpAny_looks_onW hfr hLf T.fly fun h₄ hheld₄ hsm₄ => ?_
  refine wpAny_landsW hheld₄ fun h₅ hfl₅ hsm₅ => ?_
  have stay : ∀ {h : Heap}, base.StaysIn h → StIn h₀ h := fun {h} hb b o q => hb b o (T.bas b o (st₁ b o (k₀ b o q)) fun hm => by rw [hn₀ b hm] at q; cases q)
  have p5 := p₀.st (stay hfl₅.1)
  obtain ⟨ob, hob, hobc⟩ := hfl₅.there
  refine wpAny_handleBy_builtin_as (X := "ValueError") (T := "ValueError") (b := true) (by rw [isSubtype_type]; kernel_rfl) (by rw [isSubtype_type]; kernel_rfl) (by rw [isSubtype_type]; kernel_rfl) ?_
  refine Calls.Name_function_global ok.kind hv (Calls.loadGlobal_builtin (by rw [ok.glob]; exact p5.top.g) (C.g.nob _ (by decide)) (by rw [ok.blt]; exact p5.top.b) ((p5.top.builtins _ (by decide)).trans boot_VE) ?_) (by decide)
  refine ⟨rfl, ⟨ob, hob, hobc⟩, ?_⟩
  rw [if_pos rfl]
  refine lands_againW hfl₅ fun h₆ hfl₆ hsm₆ => ?_
  obtain ⟨m, cm, c⟩ := F.call
  have up₆ : h₁.UpToSlots h₆ := ((T.up.trans hsm₄).trans hsm₅).trans hsm₆
  have ns₆ : h₆.Ns C.env.locals m := up₆.ns (c.toInCall.ns.keeps st₁)
  obtain ⟨oe, ws, hoe, hoec, hoed, hoe0⟩ := hfl₆.first
  have tup₆ := ((T.tup.of_slots hsm₄).of_slots hsm₅).of_slots hsm₆
  obtain ⟨ot, nt, hot, hotc, hotd⟩ := tup₆
  refine wpAny_storeName_local hlo ns₆ (fun h₇ hn₇ hs₇ => ?_) (by rw [ok.kind]; rfl)
  have neL : e ≠ C.env.locals := by
    rintro rfl
    obtain ⟨o', es, ep, ho', hd', _⟩ := ns₆
    rw [hoe] at ho'; cases ho'; rw [hoed] at hd'; cases hd'
  have ntL : t ≠ C.env.locals := by
    rintro rfl
    obtain ⟨o', es, ep, ho', hd', _⟩ := ns₆
    rw [hot] at ho'; cases ho'; rw [hotd] at hd'; cases hd'
  have hLn₀ : h₀.get? C.env.locals = none := hn₀ _ (List.mem_filterMap.mpr ⟨C.env, List.mem_cons_self, hLf⟩)
  have p7 : PG C.g h₇ := p₀.st fun b o q => hs₇.extBut b o (by rintro rfl; rw [hLn₀] at q; cases q) (stay hfl₆.1 b o q)
  refine hsuite _ _ e t u _ _ _ (by rfl) p7 hn₇ (if_pos rfl) ⟨oe, ws, hs₇.extBut _ _ neL hoe, hoec, hoed, hoe0⟩ ⟨ot, nt, hs₇.extBut _ _ ntL hot, hotc, hotd⟩ fun tk₇ => ?_
  refine wpAny_nameGoes_keeps hlo hn₇ (by rw [ok.kind]; rfl) fun h₈ v hn₈ hs₈ => ?_
  refine k h₈ _ v m c.toInCall.ns ?_ ?_ ?_
  · obtain ⟨o', es, ep, ho', hd', hk', hm'⟩ := hn₈
    exact ⟨o', es, ep, ho', hd', hk', fun x => by rw [hm' x]; by_cases hx : x = n <;> simp [hx]⟩
  · intro b o q nb
    have hbL : b ≠ C.env.locals := by
      rintro rfl; exact nb (List.mem_filterMap.mpr ⟨C.env, List.mem_cons_self, hLf⟩)
    exact hs₈.extBut _ _ hbL (hs₇.extBut _ _ hbL (hfl₆.1 _ _ (T.bas _ _ (st₁ _ _ q) nb)))
  · intro b o hbL q hnf
    obtain ⟨sl, hs⟩ := up₆ b o (st₁ _ _ q) hnf
    exact ⟨sl, hs₈.extBut _ _ hbL (hs₇.extBut _ _ hbL hs)⟩
set_option maxHeartbeats 4000000
set_option linter.unusedVariables false
variable {C : CX} {S : AS} {Ψ : AFl → AS → Prop}

/-- only the slots of the frame's own names have changed -/
structure SlotsAt (L : Addr) (h h' : Heap) : Prop where
  off : ∀ b o, b ≠ L → h.get? b = some o → h'.get? b = some o
  at_ : ∀ o, h.get? L = some o → ∃ sl, h'.get? L = some { o with slots := sl }
theorem SlotsAt.ns {L : Addr} {h h' : Heap} (k : SlotsAt L h h') {m : Str → Option Value} (x : h.Ns L m) : h'.Ns L m := by
  obtain ⟨o, es, ep, h1, h2, h3, h4⟩ := x
  obtain ⟨sl, hs⟩ := k.at_ o h1
  exact ⟨_, es, ep, hs, h2, h3, h4⟩

theorem FS.slots {s₀ s : Shared} {X₀ : List Addr} {β : Option Addr} (F : FS C s₀ X₀ β S s) {h' : Heap} {tk : Nat} (k : SlotsAt C.env.locals s.heap h') :
    FS C s₀ X₀ β S { s with heap := h', toks := tk } ∧ FKeep C β s.heap h' := by
  obtain ⟨m, cm, c⟩ := F.call
  have nv : ∀ o, s.heap.get? C.env.locals = some o → ¬ isVal o := by
    intro o e hv
    obtain ⟨m, o', es, ep, ho', hd, _⟩ := F.ffr.loc
    rw [e] at ho'; cases ho'
    rcases hv with ⟨xs, n, q⟩ | ⟨_, fs, q⟩ <;> rw [hd] at q <;> cases q
  have vk : ∀ X, VKeep X s.heap h' := fun X => ⟨fun a o _ hv e => k.off a o (by rintro rfl; exact nv o e hv) e, fun a o hv _ e => k.off a o (by rintro rfl; exact nv o e hv) e⟩
  have hcl : ∀ x a, C.env.cells.lookup x = some a → a ≠ C.env.locals := fun x a e => Nat.ne_of_gt (c.above x a (mem_of_lookup e))
  have hrd : ∀ y w, Rd C.env s.heap y w → Rd C.env h' y w := by
    rintro y w (⟨hk, m', hn, hw⟩ | ⟨hk, c', hc', o, ho, hd⟩)
    · exact .inl ⟨hk, m', k.ns hn, hw⟩
    · exact .inr ⟨hk, c', hc', o, k.off _ _ (hcl y c' hc') ho, hd⟩
  refine ⟨⟨⟨m, cm, ⟨⟨?_, k.ns c.toInCall.ns, fun b o e => k.off b o (Nat.ne_of_lt (Nat.lt_of_lt_of_le (Heap.lt_size e) c.toInCall.fresh)) (c.toInCall.keep b o e), c.toInCall.fresh⟩, fun x a e => ?_, c.apart, c.above⟩⟩, ?_, ?_, F.xin⟩, fun a o h1 _ _ e => k.off a o h1 e⟩
  · obtain ⟨h₁, tk₁, e⟩ := c.toInCall.same
    exact ⟨h', tk, by rw [e]⟩
  · obtain ⟨o, ho, hd⟩ := c.cell x a e
    exact ⟨o, k.off _ _ (hcl x a e) ho, hd⟩
  · exact fun y aw e => let ⟨w, h1, h2⟩ := F.vars y aw e; ⟨w, hrd y w h1, h2.keep (vk _)⟩
  · have h := F.own
    show OwnOk C s₀ X₀ h' S.own β
    cases ho : S.own with
    | none => rw [ho] at h; cases β with | none => trivial | some _ => exact h
    | some q =>
      rw [ho] at h
      cases β with
      | none => exact h
      | some b =>
        obtain ⟨⟨vs, ow⟩, h1⟩ := h
        obtain ⟨n, hb⟩ := ow.lst
        exact ⟨⟨vs, hrd _ _ ow.rd, ow.inX, ⟨n, k.off _ _ (by rintro rfl; exact nv _ hb (.inl ⟨_, n, rfl⟩)) hb⟩, ow.rel.keep (vk _)⟩, h1⟩

/-- a call out of the outermost frame, in which an exception is raised and caught -/
def CallsX (g : GX) (n : Nat) (f : Str) (args : List AV) (Φ : AV → Prop) : Prop := ∃ a, FnIs g f a ∧
  ∀ (A : Around) (env : Env) (L : Addr) (h₀ : Heap) (Xs : List Addr) (s : Shared) (vs : List Value) (Q : Value → Shared → Prop) (E : Value → Shared → Prop), A.frames = some [env] → env.frame = some L → Room A n → FrOk [env] s.heap → PG g h₀ → StIn h₀ s.heap → h₀.get? L = none → PG g s.heap → XIn Xs s.heap → RelVs Xs s.heap args vs →
    (∀ av v h' tk, SlotsAt L s.heap h' → RelV Xs h' av v → Φ av → Q v { s with heap := h', toks := tk }) → wpAny (model g.prog g.w) A (call (.ref a) vs) Q E s

/-- the outermost frame -/
def OutA (C : CX) : Prop := C.A.frames = some [C.env] ∧ C.env.frame = some C.env.locals
theorem FS.frok {s₀ s : Shared} {X₀ : List Addr} {β : Option Addr} (F : FS C s₀ X₀ β S s) (ok : C.Ok) (hf : C.env.frame = some C.env.locals) : FrOk [C.env] s.heap := ⟨fun env he => by
  obtain rfl := List.mem_singleton.mp he
  obtain ⟨m, o, es, ep, ho, hd, _⟩ := F.ffr.loc
  exact ⟨by rw [ok.kind]; decide, _, o, es, ep, hf, ho, hd⟩⟩

theorem ExS_ifNotX {f : Str} {fp cp up pos : Pos} {args : List Expr} {a b : List Stmt} {n : Nat} (hO : OutA C) (hx : C.env.kindOf f = some .globalImplicit) (hg : ∃ a, FnIs C.g f a) (hn : n ≤ C.n)
    (h : Evs C S args fun avs => CallsX C.g n f avs fun v => v = .bool true) (hb : Ex C S b Ψ)
    (ha : ∃ x r, starEach args C.env = (false, x) :: r ∧ (starEach args C.env).any (·.1) = false := by exact ⟨_, _, rfl, rfl⟩)
    (hd : (f == ("__debug__" : Str)) = false := by decide)
    (he' : isTrue (.Call (.Name f fp) args [] cp) C.env (eval (.Call (.Name f fp) args [] cp) C.env) = (do let v ← eval (.Call (.Name f fp) args [] cp) C.env; standAt (Expr.pos (.Call (.Name f fp) args [] cp)); holding [v] (truthy v)) := by rfl) :
    ExS C S (.If (.UnaryOp .Not (.Call (.Name f fp) args [] cp) up) a b pos) Ψ := by
  refine ⟨fun ok s₀ X₀ β s Q p F k => ?_⟩
  refine wpAny_If (wpAny_isTrue_Not (wpAny_isTrue_value ?_ he'))
  obtain ⟨x, r, he, hany⟩ := ha
  obtain ⟨a', hfa, hfo⟩ := hg
  have p1 := p.st F.keep
  refine wpAny_Call_Name_kw ?_
  refine Calls.Name_function_global ok.kind hx (Calls.loadGlobal_global (by rw [ok.glob]; exact p1.top.g) hfa ?_) hd
  have hb' : ∃ x' r', backTo cp (starEach args C.env) = (false, x') :: r' := by rw [he]; exact ⟨_, _, rfl⟩
  obtain ⟨x', r', hb'⟩ := hb'
  obtain ⟨o, fd, ho, hd⟩ := hfo _ p1
  refine Calls.callWith_function (o := o) (fd := fd) ?_
  rw [hb']
  refine Calls.evalArgs_plain ?_
  rw [← hb']
  refine h.go ok cp _ s _ _ p1 F.xinh F.relS fun avs vs h₁ t₁ st₁ ra _ hc => ?_
  obtain ⟨a'', ⟨hfa', _⟩, hc⟩ := hc
  rw [hfa] at hfa'
  cases hfa'
  have F₁ := F.st (tk := t₁) st₁
  have hLn : s₀.heap.get? C.env.locals = none := by
    obtain ⟨m, cm, c⟩ := F.call
    cases e : s₀.heap.get? C.env.locals with
    | none => rfl
    | some o' => exact absurd (Heap.lt_size e) (Nat.not_lt.mpr c.toInCall.fresh)
  refine ⟨⟨st₁ _ _ ho, hd⟩, hc C.A C.env C.env.locals s₀.heap _ _ vs _ _ hO.1 hO.2 (ok.room.le hn) (F₁.frok ok hO.2) p F₁.keep hLn (p1.st st₁) F₁.xinh ra fun av v h' tk sl rv e => ?_⟩
  subst e
  obtain rfl : v = .bool true := rv
  refine wpAny_truthy_bool ?_
  obtain ⟨F₂, fk₂⟩ := F₁.slots (tk := tk) sl
  refine hb.go ok s₀ X₀ β _ _ p F₂ fun afl fl S' β' h'' tk'' F' fk bv rf ψ => ?_
  have fk12 : FKeep C β s.heap h' := FKeep.trans (.of st₁) (.refl _ _) fk₂
  exact k afl fl S' β' h'' tk'' F' (fk12.trans (.refl _ _) fk) (BEv.trans (.refl _ _) bv fk12 F₂.ffr) rf ψ

/-- what a def's call in the outermost frame gives, if it raises and catches within -/
structure ExX (C : CX) (S : AS) (body : List Stmt) (av : AV) : Prop where
  go : C.Ok → ∀ (env : Env) (h₀ : Heap) (s₀ s : Shared) (Xs : List Addr) (Q : Flow → Shared → Prop) (E : Value → Shared → Prop), C.A.frames = some [C.env, env] → C.env.frame = some C.env.locals → FrOk [C.env, env] s.heap → PG C.g h₀ → StIn h₀ s.heap → (∀ b ∈ frs [C.env, env], h₀.get? b = none) → FS C s₀ Xs none S s → PG C.g s₀.heap →
    (∀ v h' tk, (∀ X h, RelV X h av v) → (∀ b o, s.heap.get? b = some o → b ∉ frs [C.env, env] → h'.get? b = some o) → (∀ b o, b ≠ C.env.locals → s.heap.get? b = some o → (∀ vs, o.data ≠ .fields vs) → ∃ sl, h'.get? b = some { o with slots := sl }) → Q (.ret v) { s with heap := h', toks := tk }) →
    wpAny (model C.g.prog C.g.w) C.A (execs body C.env) Q E s
theorem CallsX_of {g : GX} {n : Nat} {f : Str} {params : Arguments} {pos : Pos} {ns : List Str} {body : List Stmt} {scope : Scope} {args : List AV} {av : AV}
    (hd : (⟨f, params, body, scope, pos⟩ : DefRec) ∈ recsOf g.p)
    (hbind : ∀ (vs : List Value) (pm cd doc : Value), vs.length = args.length → bindArgs (Calls.docDef f params body scope pm cd doc) ⟨vs, []⟩ = pure (ns.zip vs))
    (hlen : ns.length = args.length) (hp : parsOk ns scope = true) (hnd : ns.Nodup) (hk : scope.kind = .function) (hgen : scope.isGenerator = false) (hco : scope.isCoroutine = false)
    (hbody : ∀ (A : Around) (L a : Addr) (qual : Str) (code : Value), ExX ⟨g, A, newEnv scope L mainGlobals (cellsFrom (L + 1) scope.names []) qual (some a) code none builtinsNs, n⟩ ⟨ns.zip args, none⟩ body av) : CallsX g (n + 1) f args fun v => v = av := by
  obtain ⟨h, T, _⟩ := g.inh
  obtain ⟨a, o, pm, code, doc, h1, _⟩ := T.fn _ hd
  have at_ : ∀ h, PG g h → ∃ o pm code doc, h.get? a = some o ∧ o.data = .func (Calls.docDef f params body scope pm code doc) ∧ h.CodeRec code f := by
    intro h p
    obtain ⟨a', o, pm, code, doc, h1', h2, h3, h4⟩ := p.top.fn _ hd
    rw [h1] at h1'; cases h1'
    exact ⟨o, pm, code, doc, h2, h3, h4⟩
  refine ⟨a, ⟨h1, fun h p => let ⟨o, pm, code, doc, q1, q2, _⟩ := at_ h p; ⟨o, _, q1, q2⟩⟩, fun A env L₀ h₀ Xs s vs Q E hfr hf ro fo p₀ k₀ hL₀ p xi rv k => ?_⟩
  obtain ⟨o, pm, code, doc, ho, hd, hcd⟩ := at_ _ p
  have hvl : vs.length = args.length := rv.length
  have hb := hbind vs pm code doc hvl
  have hdep := ro.depth
  have hun := ro.units
  have hzip1 : ∀ x ∈ ns.zip vs, x.1 ∈ ns := fun x hx => (List.of_mem_zip (a := x.1) (b := x.2) hx).1
  have hmapz : (ns.zip vs).map (·.1) = ns := by
    rw [List.map_fst_zip]; omega
  refine wpAny_call (codeAny_call_cells (by omega) ho hd p.top.nolimit hcd rfl hb rfl (fun x hx => parsOk_spec hp _ (hzip1 x hx)) (fun s₁ ic => ?_) hco hgen hk)
  generalize hL : s.heap.objs.size = L at ic
  have henv : callEnvC (Calls.docDef f params body scope pm code doc) L a = newEnv scope L mainGlobals (cellsFrom (L + 1) scope.names []) (f ++ ".<locals>.") (some a) code none builtinsNs := rfl
  rw [henv] at ic ⊢
  generalize f ++ ".<locals>." = qual at *
  obtain ⟨h₁, tk₁, hs₁⟩ := ic.toInCall.same
  subst hs₁
  have st₁ : StIn s.heap h₁ := ic.toInCall.keep
  let C : CX := ⟨g, A.deeper (newEnv scope L mainGlobals (cellsFrom (L + 1) scope.names []) qual (some a) code none builtinsNs), newEnv scope L mainGlobals (cellsFrom (L + 1) scope.names []) qual (some a) code none builtinsNs, n⟩
  have ok : C.Ok := by
    refine ⟨⟨ro.hh, ?_, ?_, ⟨_, Around.frames_deeper hfr⟩⟩, hk, rfl, rfl, ⟨_, _, Around.frames_deeper hfr, hgen, hco, rfl, rfl⟩⟩
    · show A.depth + 1 + n + 110 < recursionLimit; omega
    · show A.units + 3 + 16 * n + 100 < cLine; omega
  have FS1 : FS C s Xs none ⟨ns.zip args, none⟩ { s with heap := h₁, toks := tk₁ } := by
    refine ⟨⟨_, _, ic⟩, ?_, trivial, xi⟩
    intro x av e
    obtain ⟨v, hv, rx⟩ := lookup_zip (rv.st st₁) e
    refine ⟨v, ?_, by simpa using rx⟩
    have hxn : x ∈ ns := hzip1 (x, v) (mem_of_lookup hv)
    rcases parsOk_spec hp (L + 1) hxn with h1 | ⟨h1, h2⟩
    · exact .inl ⟨h1, _, ic.toInCall.ns, bindL_spec _ _ x v (by rw [hmapz]; exact hnd) hv h1⟩
    · obtain ⟨c, hc⟩ := Option.isSome_iff_exists.mp h2
      refine .inr ⟨.inl h1, c, hc, ?_⟩
      have := ic.cell x c hc
      rw [bindC_spec _ _ x v (by rw [hmapz]; exact hnd) hv h1] at this
      exact this
  have hLn : s.heap.get? L = none := by
    cases e : s.heap.get? L with
    | none => rfl
    | some o' => have := Heap.lt_size e; rw [hL] at this; exact absurd this (Nat.lt_irrefl _)
  have fo₂ : FrOk [C.env, env] h₁ := ⟨fun env' he => by
    rcases List.mem_cons.mp he with rfl | he
    · obtain ⟨o', es, ep, ho', hd', _⟩ := ic.toInCall.ns
      exact ⟨by show scope.kind ≠ .module; rw [hk]; decide, L, o', es, ep, rfl, ho', hd'⟩
    · exact (fo.st st₁).ok env' he⟩
  have hfrs : frs [C.env, env] = [L, L₀] := by
    show (match C.env.frame with | none => frs [env] | some b => b :: frs [env]) = _
    rw [show C.env.frame = some L from rfl, show frs [env] = [L₀] from by simp [frs, hf]]
  refine (hbody _ L a qual code).go ok env h₀ s _ Xs _ _ (Around.frames_deeper hfr) rfl fo₂ p₀ (k₀.trans st₁) (fun b hb => ?_) FS1 p fun v h' tk rv' hoff hup => ?_
  · rw [hfrs] at hb
    rcases List.mem_cons.mp hb with rfl | hb
    · cases e : h₀.get? b with
      | none => rfl
      | some o' => rw [k₀ _ _ e] at hLn; cases hLn
    · rw [List.mem_singleton.mp hb]; exact hL₀
  · refine k av v h' tk ⟨fun b o' hb e => ?_, fun o' e => ?_⟩ (rv' _ _) rfl
    · refine hoff b o' (st₁ _ _ e) fun hm => ?_
      rw [hfrs] at hm
      rcases List.mem_cons.mp hm with rfl | hm
      · rw [hLn] at e; cases e
      · exact hb (List.mem_singleton.mp hm)
    · obtain ⟨_, L', o'', es, ep, hf', ho'', hd''⟩ := fo.ok env (List.mem_singleton.mpr rfl)
      rw [hf] at hf'; cases hf'
      rw [e] at ho''; cases ho''
      exact hup L₀ o' (fun q => by rw [q, show C.env.locals = L from rfl, hLn] at e; cases e) (st₁ _ _ e) fun vs q => by rw [hd''] at q; cases q

/-- the law, called by nobody else -/
structure LawBody (g : GX) (n : Nat) (nl : List Int) (params : Arguments) (pos : Pos) (ns : List Str) (body : List Stmt) (scope : Scope) : Prop where
  hd : (⟨Str.ofString "law", params, body, scope, pos⟩ : DefRec) ∈ recsOf g.p
  hbind : ∀ (vs : List Value) (pm cd doc : Value), vs.length = 1 → bindArgs (Calls.docDef (Str.ofString "law") params body scope pm cd doc) ⟨vs, []⟩ = pure (ns.zip vs)
  hlen : ns.length = 1
  hp : parsOk ns scope = true
  hnd : ns.Nodup
  hk : scope.kind = .function
  hgen : scope.isGenerator = false
  hco : scope.isCoroutine = false
  hbody : ∀ (A : Around) (L a : Addr) (qual : Str) (code : Value), OutA ⟨g, A, newEnv scope L mainGlobals (cellsFrom (L + 1) scope.names []) qual (some a) code none builtinsNs, n⟩ → Ex ⟨g, A, newEnv scope L mainGlobals (cellsFrom (L + 1) scope.names []) qual (some a) code none builtinsNs, n⟩ ⟨ns.zip [.lst (IL nl)], none⟩ body fun fl _ => match fl with
      | .ret v => v = .bool true
      | _ => False
def LawIs (g : GX) (n : Nat) (nl : List Int) : Prop := ∃ params pos ns body scope, LawBody g n nl params pos ns body scope
/-- the law's own call -/
theorem law_goA {l : OpenLaw} {g : GX} {cl : Str → Option Addr} {mean : ExcName → Option Value} {args : List WData} {s₁ : Shared} {fa la : Addr} {vs : List Value} {nl : List Int} {n : Nat} (hpr : g.prog = l.row.prog) (p : PG g s₁.heap) (hg : s₁.gens = #[])
    (hf : g.mg "law" = some (.ref fa)) (hL : s₁.heap.IsList la vs.toArray) (hI : IntsAre vs nl) (hn : n ≤ 400)
    (hLB : LawIs g n nl) :
    wpAny (model l.row.prog g.w) callerA (call (.ref fa) [.ref la]) (fun v s' => GoodWG l.row.claim cl mean args s₁ (.ok (.ret v)) s') (fun e s' => GoodWG l.row.claim cl mean args s₁ (.error e) s') s₁ := by
  obtain ⟨params, pos, ns, body, scope, hd, hbind, hlen, hp, hnd, hk, hgen, hco, hbody⟩ := hLB
  rw [← hpr]
  obtain ⟨a', o, pm, code, doc, h1', ho, hd', hcd⟩ := p.top.fn _ hd
  have h1'' : g.mg "law" = some (.ref a') := h1'
  rw [hf] at h1''; cases h1''
  have rv : RelVs [] s₁.heap [.lst (IL nl)] [.ref la] := ⟨_, _, rfl, ⟨la, vs, rfl, by simp, hL, RelVs.of_ints hI⟩, rfl⟩
  have hb := hbind [.ref la] pm code doc rfl
  have hzip1 : ∀ x ∈ ns.zip [Value.ref la], x.1 ∈ ns := fun x hx => (List.of_mem_zip (a := x.1) (b := x.2) hx).1
  have hmapz : (ns.zip [Value.ref la]).map (·.1) = ns := by
    rw [List.map_fst_zip]; simp; omega
  have hfr : callerA.frames = some [] := rfl
  refine wpAny_call (codeAny_call_cells (by decide) ho hd' p.top.nolimit hcd rfl hb rfl (fun x hx => parsOk_spec hp _ (hzip1 x hx)) (fun s₂ ic => ?_) hco hgen hk)
  generalize hL' : s₁.heap.objs.size = L at ic
  have henv : callEnvC (Calls.docDef (Str.ofString "law") params body scope pm code doc) L fa = newEnv scope L mainGlobals (cellsFrom (L + 1) scope.names []) (Str.ofString "law" ++ ".<locals>.") (some fa) code none builtinsNs := rfl
  rw [henv] at ic ⊢
  generalize Str.ofString "law" ++ ".<locals>." = qual at *
  obtain ⟨h₁, tk₁, hs₁⟩ := ic.toInCall.same
  subst hs₁
  have st₁ : StIn s₁.heap h₁ := ic.toInCall.keep
  let C : CX := ⟨g, callerA.deeper (newEnv scope L mainGlobals (cellsFrom (L + 1) scope.names []) qual (some fa) code none builtinsNs), newEnv scope L mainGlobals (cellsFrom (L + 1) scope.names []) qual (some fa) code none builtinsNs, n⟩
  have ok : C.Ok := by
    refine ⟨⟨rfl, ?_, ?_, ⟨_, Around.frames_deeper hfr⟩⟩, hk, rfl, rfl, ⟨_, [], Around.frames_deeper hfr, hgen, hco, rfl, rfl⟩⟩
    · show 1 + 300 + 1 + n + 110 < 1000; omega
    · show 4 + 3 + 16 * n + 100 < 9900; omega
  have FS1 : FS C s₁ [] none ⟨ns.zip [.lst (IL nl)], none⟩ { s₁ with heap := h₁, toks := tk₁ } := by
    refine ⟨⟨_, _, ic⟩, ?_, trivial, fun _ h => nomatch h⟩
    intro x av e
    obtain ⟨v, hv, rx⟩ := lookup_zip (rv.st st₁) e
    refine ⟨v, ?_, by simpa using rx⟩
    have hxn : x ∈ ns := hzip1 (x, v) (mem_of_lookup hv)
    rcases parsOk_spec hp (L + 1) hxn with h1 | ⟨h1, h2⟩
    · exact .inl ⟨h1, _, ic.toInCall.ns, bindL_spec _ _ x v (by rw [hmapz]; exact hnd) hv h1⟩
    · obtain ⟨c, hc⟩ := Option.isSome_iff_exists.mp h2
      refine .inr ⟨.inl h1, c, hc, ?_⟩
      have := ic.cell x c hc
      rw [bindC_spec _ _ x v (by rw [hmapz]; exact hnd) hv h1] at this
      exact this
  refine wpAny_mono ((hbody C.A L fa qual code ⟨Around.frames_deeper hfr, rfl⟩).go ok s₁ [] none _ _ p FS1 fun afl fl S' β' h' tk F' fk bv rf ψ => ?_) (fun _ _ x => x) fun _ _ x => x.elim
  have keep : StIn s₁.heap h' := F'.keep
  cases afl with
  | ret av =>
    obtain ⟨v, rfl, rv'⟩ := rf
    subst ψ
    obtain rfl : v = .bool true := rv'
    exact law_end keep rfl hg
  | next => exact ψ.elim
  | brk => exact ψ.elim
  | cont => exact ψ.elim
set_option maxHeartbeats 4000000
set_option linter.unusedVariables false
open_top hd for PySem.Challenge.rw_dm0263_06
structure GOk (g : GX) : Prop where
  p : g.p = hd.view_39
  ex : g.ex = (hd.heap_39 g.w.params).In
example : (recsOf hd.view_39).map (fun d => d.name.toString) = ["_sqrt_nearest", "_rshift_nearest", "_div_nearest", "_law_due", "_law_same", "_law_refused", "law"] := by decide +kernel

abbrev stN (n a b : Int) : AS := ⟨[("a", .int a), ("b", .int b), ("n", .int n)], none⟩
theorem c_sqrt {g : GX} (hg : GOk g) {n a₀ : Int} (hn : 0 < n) (ha : 0 < a₀) : Calls g 1 "_sqrt_nearest" [.int n, .int a₀] fun v => v = .int (rt n) := by
  refine Calls_of (n := 0) (ns := [Str.ofString "n", Str.ofString "a"]) (hd := by rw [hg.p]; exact List.Mem.head _) ?_ rfl rfl (by decide) rfl rfl rfl ?_
  · intro vs pm cd doc hv
    match vs, hv with
    | [x, y], _ => rfl
  · intro A L a qual code
    repeat walk_at "mw"
    refine ifD (fun h => absurd h (by omega)) (fun _ => ?_)
    repeat walk_at "mw"
    refine ifD (fun h => absurd h (by omega)) (fun _ => ?_)
    repeat walk_at "mw"
    refine ExS_while (fun k S => ∃ a b : Int, 0 < a ∧ S = stN n a b ∧ ((b = 0 ∧ k = 2 * (ns1 n a).toNat + 2) ∨ (0 < b ∧ a = ns1 n b ∧ n ≤ a * (a + 1) ∧ k = 2 * a.toNat + if a = b then 0 else 1))) (n₀ := 2 * (ns1 n a₀).toNat + 2) (S₀ := stN n a₀ 0) (by walk_at "le") ⟨a₀, 0, ha, rfl, .inl ⟨rfl, rfl⟩⟩ ?_
    rintro k S ⟨a, b, ha, rfl, hk⟩
    have ha' : a ≠ 0 := by omega
    repeat walk_at "mw"
    refine ifN (fun hab => ?_) (fun hab => ?_)
    · repeat walk_at "mw"
      have e : (a - (-n).fdiv a).fdiv (2 ^ (1 : Int).toNat) = ns1 n a := by
        rw [Int.fdiv_eq_ediv_of_nonneg _ (by decide), Int.fdiv_eq_ediv_of_nonneg _ (by omega)]; rfl
      rw [e]
      have hp := ns1_pos ha hn
      have hh := ns1_hi ha hn
      refine ⟨stN n (ns1 n a) a, 2 * (ns1 n a).toNat + (if ns1 n a = a then 0 else 1), by walk_at "le", ?_, ns1 n a, a, hp, rfl, .inr ⟨ha, rfl, hh, rfl⟩⟩
      rcases hk with ⟨rfl, rfl⟩ | ⟨hb, _, hle, rfl⟩
      · split <;> omega
      · have := ns1_le ha hn hle
        rw [if_neg hab]
        split <;> omega
    · repeat walk_at "mw"
      rcases hk with ⟨rfl, _⟩ | ⟨hb, he, _, _⟩
      · omega
      · rw [← hab] at he
        rw [rt_eq (ns1_fix ha hn he.symm)]
theorem f_sqrt {g : GX} (hg : GOk g) : ∃ a, FnIs g "_sqrt_nearest" a := FnIs_of (by rw [hg.p]; exact List.Mem.head _)
theorem c_rsh {g : GX} (hg : GOk g) {x : Int} {k : Nat} (hk : k ≤ 100000000) : Calls g 1 "_rshift_nearest" [.int x, .int k] fun v => v = .int (dn x (2 ^ k)) := by
  refine Calls_of (n := 0) (ns := [Str.ofString "x", Str.ofString "shift"]) (hd := by rw [hg.p]; exact List.Mem.tail _ (List.Mem.head _)) ?_ rfl rfl (by decide) rfl rfl rfl ?_
  · intro vs pm cd doc hv
    match vs, hv with
    | [x, y], _ => rfl
  · intro A L a qual code
    repeat walk_at "mw"
    refine Bin_shl (by omega) (by rw [show intBits 1 = 1 from rfl]; omega) ?_
    repeat walk_at "mw"
    rw [Int.one_mul, Int.toNat_natCast]
    exact congrArg AV.int dn_walkS
theorem f_rsh {g : GX} (hg : GOk g) : ∃ a, FnIs g "_rshift_nearest" a := FnIs_of (by rw [hg.p]; exact List.Mem.tail _ (List.Mem.head _))
theorem c_div {g : GX} (hg : GOk g) {a b : Int} (hb : 0 < b) : Calls g 1 "_div_nearest" [.int a, .int b] fun v => v = .int (dn a b) := by
  refine Calls_of (n := 0) (ns := [Str.ofString "a", Str.ofString "b"]) (hd := by rw [hg.p]; exact List.Mem.tail _ (List.Mem.tail _ (List.Mem.head _))) ?_ rfl rfl (by decide) rfl rfl rfl ?_
  · intro vs pm cd doc hv
    match vs, hv with
    | [x, y], _ => rfl
  · intro A L a qual code
    have hb' : b ≠ 0 := by omega
    repeat walk_at "mw"
    exact congrArg AV.int (dn_walk hb)
theorem f_div {g : GX} (hg : GOk g) : ∃ a, FnIs g "_div_nearest" a := FnIs_of (by rw [hg.p]; exact List.Mem.tail _ (List.Mem.tail _ (List.Mem.head _)))
set_option linter.unusedVariables false
/-- what _law_due gives -/
def due (k n g : Int) : Int :=
  if g % 2 = 1 ∨ g > 4 * k + 1 then k
  else if (g * (2 * k - 1) - 1) ^ 2 < 4 * n * g * g ∧ 4 * n * g * g < (g * (2 * k - 1) + 1) ^ 2 then (2 * k - 1) / 2 + (2 * k - 1) / 2 % 2
  else if (g * (2 * k + 1) - 1) ^ 2 < 4 * n * g * g ∧ 4 * n * g * g < (g * (2 * k + 1) + 1) ^ 2 then (2 * k + 1) / 2 + (2 * k + 1) / 2 % 2
  else k
theorem sq_le {a b : Int} (ha : 0 ≤ a) (h : a ≤ b) : a * a ≤ b * b := Int.mul_le_mul h h ha (by omega)
theorem dn_mid {R g k : Int} (hg : 0 < g) (h1 : g * (2 * k - 1) < 2 * R) (h2 : 2 * R < g * (2 * k + 1)) : dn R g = k := by
  have e1 : g * (2 * k - 1) = 2 * (g * k) - g := by grind
  have e2 : g * (2 * k + 1) = 2 * (g * k) + g := by grind
  rw [e1] at h1; rw [e2] at h2
  refine dn_uniq hg ?_ ?_ ?_ ?_ <;> omega
theorem rt_lt {N R H : Int} (r : Rt N R) (h0 : 0 ≤ H) (h : H * (H + 1) < N) : H < R := by
  apply Int.not_le.mp
  intro hle
  have h1 := r.hi
  have h2 := r.pos
  have : R * (R + 1) ≤ H * (H + 1) := Int.mul_le_mul hle (by omega) (by omega) h0
  omega
theorem lt_rt {N R H : Int} (r : Rt N R) (h0 : 0 < H) (h : N ≤ H * (H - 1)) : R < H := by
  apply Int.not_le.mp
  intro hle
  have h1 := r.lo
  have h2 := r.pos
  have : H * (H - 1) ≤ R * (R - 1) := Int.mul_le_mul hle (by omega) (by omega) (by omega)
  omega
theorem due_spec {k n g R : Int} (hk : 0 < k) (hn : Rt n k) (hg : 0 < g) (hR : Rt (n * g * g) R) : dn R g = due k n g := by
  have n1 := hn.lo
  have n2 := hn.hi
  have r0 := hR.pos
  have r1 := hR.lo
  have r2 := hR.hi
  have hgg : 0 < g * g := Int.mul_pos hg hg
  -- 4 n > (2k-1)^2, 4 n < (2k+1)^2, times g g
  have a1 : (2 * k - 1) * (2 * k - 1) + 3 ≤ 4 * n := by
    have : (2 * k - 1) * (2 * k - 1) = 4 * (k * (k - 1)) + 1 := by grind
    omega
  have a2 : 4 * n + 1 ≤ (2 * k + 1) * (2 * k + 1) := by
    have : (2 * k + 1) * (2 * k + 1) = 4 * (k * (k + 1)) + 1 := by grind
    omega
  have b1 : ((2 * k - 1) * (2 * k - 1) + 3) * (g * g) ≤ 4 * n * (g * g) := Int.mul_le_mul_of_nonneg_right a1 (by omega)
  have b2 : (4 * n + 1) * (g * g) ≤ (2 * k + 1) * (2 * k + 1) * (g * g) := Int.mul_le_mul_of_nonneg_right a2 (by omega)
  have e1 : ((2 * k - 1) * (2 * k - 1) + 3) * (g * g) = (g * (2 * k - 1)) * (g * (2 * k - 1)) + 3 * (g * g) := by grind
  have e2 : (2 * k + 1) * (2 * k + 1) * (g * g) = (g * (2 * k + 1)) * (g * (2 * k + 1)) := by grind
  have e3 : (4 * n + 1) * (g * g) = 4 * (n * g * g) + g * g := by grind
  have e4 : 4 * n * (g * g) = 4 * (n * g * g) := by grind
  have e5 : 4 * n * g * g = 4 * (n * g * g) := by grind
  rw [e1, e4] at b1
  rw [e2, e3] at b2
  have p1 : 0 < g * (2 * k - 1) := Int.mul_pos hg (by omega)
  have p2 : 0 < g * (2 * k + 1) := Int.mul_pos hg (by omega)
  have g1 : g * (2 * k + 1) = g * (2 * k - 1) + 2 * g := by grind
  have q1 : g * (2 * k - 1) = 2 * (g * k) - g := by grind
  have q2 : g * (2 * k + 1) = 2 * (g * k) + g := by grind
  generalize hN : n * g * g = N at *
  generalize hP : g * (2 * k - 1) = P at *
  generalize hP' : g * (2 * k + 1) = P' at *
  generalize hG : g * g = G at *
  have s1 : (2 * R + 1) * (2 * R + 1) = 4 * (R * (R + 1)) + 1 := by grind
  have s2 : (2 * R - 1) * (2 * R - 1) = 4 * (R * (R - 1)) + 1 := by grind
  unfold due
  rw [hP, hP', e5]
  have sqm : (P - 1) ^ 2 = P * P - 2 * P + 1 := by grind
  have sqp : (P + 1) ^ 2 = P * P + 2 * P + 1 := by grind
  have sqm' : (P' - 1) ^ 2 = P' * P' - 2 * P' + 1 := by grind
  have sqp' : (P' + 1) ^ 2 = P' * P' + 2 * P' + 1 := by grind
  rw [sqm, sqp, sqm', sqp']
  split
  · rename_i hc
    refine dn_mid hg ?_ ?_
    · rw [hP]
      apply Int.not_le.mp
      intro hle
      rcases hc with hodd | hbig
      · have : P % 2 = 1 := by omega
        have := sq_le (a := 2 * R + 1) (b := P) (by omega) (by omega)
        omega
      · have := sq_le (a := 2 * R + 1) (b := P + 1) (by omega) (by omega)
        have e : (P + 1) * (P + 1) = P * P + 2 * P + 1 := by grind
        have : (4 * k + 2) * g ≤ g * g := Int.mul_le_mul_of_nonneg_right (by omega) (by omega)
        have e6 : (4 * k + 2) * g = 2 * P + 4 * g := by rw [← hP]; grind
        omega
    · rw [hP']
      apply Int.not_le.mp
      intro hle
      rcases hc with hodd | hbig
      · have : P' % 2 = 1 := by omega
        have := sq_le (a := P') (b := 2 * R - 1) (by omega) (by omega)
        omega
      · have := sq_le (a := P' - 1) (b := 2 * R - 1) (by omega) (by omega)
        have e : (P' - 1) * (P' - 1) = P' * P' - 2 * P' + 1 := by grind
        have : (4 * k + 2) * g ≤ g * g := Int.mul_le_mul_of_nonneg_right (by omega) (by omega)
        have e6 : (4 * k + 2) * g = 2 * P' := by rw [← hP']; grind
        omega
  · rename_i hc
    have hev : g % 2 = 0 := by omega
    obtain ⟨H, hH⟩ : ∃ H, P = 2 * H := ⟨P / 2, by omega⟩
    obtain ⟨H', hH'⟩ : ∃ H', P' = 2 * H' := ⟨P' / 2, by omega⟩
    have t1 : P * P = 4 * (H * H) := by rw [hH]; grind
    have t2 : P' * P' = 4 * (H' * H') := by rw [hH']; grind
    have u1 : H * (H - 1) = H * H - H := by grind
    have u2 : H * (H + 1) = H * H + H := by grind
    have u3 : H' * (H' - 1) = H' * H' - H' := by grind
    have u4 : H' * (H' + 1) = H' * H' + H' := by grind
    split
    · rename_i h1
      have hrt : R = H := hR.uniq ⟨by omega, by omega, by omega⟩
      rw [hrt]
      have : (2 * k - 1) / 2 = k - 1 := by omega
      rw [this]
      have f1 : g * (k - 1 + (k - 1) % 2) = g * k - g + g * ((k - 1) % 2) := by grind
      refine dn_uniq hg ?_ ?_ ?_ ?_ <;> rw [f1] <;> rcases Int.emod_two_eq (k - 1) with h | h <;> rw [h] <;> omega
    · rename_i h1
      split
      · rename_i h2
        have hrt : R = H' := hR.uniq ⟨by omega, by omega, by omega⟩
        rw [hrt]
        have : (2 * k + 1) / 2 = k := by omega
        rw [this]
        have f1 : g * (k + k % 2) = g * k + g * (k % 2) := by grind
        refine dn_uniq hg ?_ ?_ ?_ ?_ <;> rw [f1] <;> rcases Int.emod_two_eq k with h | h <;> rw [h] <;> omega
      · rename_i h2
        have hlo : H < R := rt_lt hR (by omega) (by omega)
        have hhi : R < H' := lt_rt hR (by omega) (by omega)
        refine dn_mid hg ?_ ?_
        · rw [hP]; omega
        · rw [hP']; omega
set_option maxHeartbeats 4000000
set_option linter.unusedVariables false
theorem Ev_and3 {C : CX} {S : AS} {Φ : AV → Prop} {x y z : Expr} {pos : Pos} (h : Ev C S x fun a => Trt C a fun t => if t then (Ev C S y fun a => Trt C a fun t => if t then Ev C S z Φ else Φ a) else Φ a) : Ev C S (.BoolOp .And [x, y, z] pos) Φ := by
  refine ⟨fun ok X s Q E p xi rs k => ?_⟩
  refine BoolOp_and (h.go ok X s _ E p xi rs fun a va h₁ t₁ st₁ ra hb => ?_)
  refine hb.go ok X _ va _ E (p.st st₁) (xi.st st₁) ra fun t h₂ t₂ st₂ φ => ?_
  cases t with
  | true => exact (Ev_and2 φ).go ok X _ Q E (p.st (st₁.trans st₂)) (xi.st (st₁.trans st₂)) (rs.st (st₁.trans st₂)) fun av v h' tk st r ψ => k av v h' tk (st₁.trans (st₂.trans st)) r ψ
  | false => exact k a va h₂ t₂ (st₁.trans st₂) (ra.st st₂) φ
theorem c_same {g : GX} (hg : GOk g) {a b : Int} (h : a = b) : Calls g 1 "_law_same" [.int a, .int b] fun v => v = .bool true := by
  refine Calls_of (n := 0) (ns := [Str.ofString "told", Str.ofString "due"]) (hd := by rw [hg.p]; exact List.Mem.tail _ (List.Mem.tail _ (List.Mem.tail _ (List.Mem.tail _ (List.Mem.head _))))) ?_ rfl rfl (by decide) rfl rfl rfl ?_
  · intro vs pm cd doc hv
    match vs, hv with
    | [x, y], _ => rfl
  · intro A L ad qual code
    refine Ex_cons (ExS_return (Ev_and3 ?_))
    repeat walk_at "mw"
    rw [h]
    simp
theorem f_same {g : GX} (hg : GOk g) : ∃ a, FnIs g "_law_same" a := FnIs_of (by rw [hg.p]; exact List.Mem.tail _ (List.Mem.tail _ (List.Mem.tail _ (List.Mem.tail _ (List.Mem.head _)))))
abbrev stD6 (k n g : Int) : AS := ⟨[("k", .int k), ("n", .int n), ("g", .int g)], none⟩
theorem c_due {g : GX} (hg : GOk g) {k n q : Int} (hk : 0 < k) (hkb : intBits k ≤ 41) (hnb : intBits n ≤ 90) (hqb : intBits q ≤ 101) : Calls g 1 "_law_due" [.int k, .int n, .int q] fun v => v = .int (due k n q) := by
  refine Calls_of (n := 0) (ns := [Str.ofString "k", Str.ofString "n", Str.ofString "g"]) (hd := by rw [hg.p]; exact List.Mem.tail _ (List.Mem.tail _ (List.Mem.tail _ (List.Mem.head _)))) ?_ rfl rfl (by decide) rfl rfl rfl ?_
  · intro vs pm cd doc hv
    match vs, hv with
    | [x, y, z], _ => rfl
  · intro A L ad qual code
    unfold due
    refine Ex_cons (ExS_if (Tst.mono (Φ := fun b => b = decide (q % 2 = 1 ∨ q > 4 * k + 1)) ?_ ?_))
    · repeat walk_at "mw"
      rw [Int.fmod_eq_emod_of_nonneg _ (by decide)]
      refine ifE (fun h => ?_) (fun h => ?_)
      · exact (decide_eq_true (.inl h)).symm
      · repeat walk_at "mw"
        refine ifD (fun h2 => ?_) (fun h2 => ?_)
        · exact (decide_eq_true (.inr h2)).symm
        · repeat walk_at "mw"
          exact (decide_eq_false (by omega)).symm
    · rintro _ rfl
      refine ifD (fun h => ?_) (fun h => ?_)
      · rw [if_pos h]
        repeat walk_at "mw"
        rfl
      · rw [if_neg h]
        have hb2 : intBits 2 ≤ 2 := by decide
        have hb1 : intBits 1 ≤ 1 := by decide
        have hb4 : intBits 4 ≤ 3 := by decide
        have h2k : intBits (2 * k) ≤ 43 := Nat.le_trans (intBits_mul_le hb2 hkb) (by decide)
        have hm : intBits (2 * k - 1) ≤ 44 := Nat.le_trans (intBits_sub_le h2k hb1) (by decide)
        have hp : intBits (2 * k + 1) ≤ 44 := Nat.le_trans (intBits_add_le h2k hb1) (by decide)
        have h4n : intBits (4 * n) ≤ 93 := Nat.le_trans (intBits_mul_le hb4 hnb) (by decide)
        have h4nq : intBits (4 * n * q) ≤ 194 := Nat.le_trans (intBits_mul_le h4n hqb) (by decide)
        refine Ex_nil ?_
        refine Ex_cons (ExS_cut (fun S => S = stD6 k n q ∧ ¬ ((q * (2 * k - 1) - 1) ^ 2 < 4 * n * q * q ∧ 4 * n * q * q < (q * (2 * k - 1) + 1) ^ 2) ∧ ¬ ((q * (2 * k + 1) - 1) ^ 2 < 4 * n * q * q ∧ 4 * n * q * q < (q * (2 * k + 1) + 1) ^ 2)) ?_ ?_)
        · refine ExS_for ?_
          repeat walk_at "mw"
          refine ⟨_, .lst _, fun i S' => S' = stD6 k n q ∧ (0 < i → ¬ ((q * (2 * k - 1) - 1) ^ 2 < 4 * n * q * q ∧ 4 * n * q * q < (q * (2 * k - 1) + 1) ^ 2)) ∧ (1 < i → ¬ ((q * (2 * k + 1) - 1) ^ 2 < 4 * n * q * q ∧ 4 * n * q * q < (q * (2 * k + 1) + 1) ^ 2)), ⟨stD6 k n q, by walk_at "le", rfl, by omega, by omega⟩, ?_, ?_⟩
          · rintro i S' av hi ⟨rfl, hi1, hi2⟩
            obtain ⟨half, rfl, hhb, hh⟩ : ∃ half : Int, av = .int half ∧ intBits half ≤ 44 ∧ ((i = 0 ∧ half = 2 * k - 1) ∨ (i = 1 ∧ half = 2 * k + 1)) := by
              match i, hi with
              | 0, hi => cases hi; exact ⟨_, rfl, hm, .inl ⟨rfl, rfl⟩⟩
              | 1, hi => cases hi; exact ⟨_, rfl, hp, .inr ⟨rfl, rfl⟩⟩
              | n + 2, hi => cases hi
            clear hi
            refine ⟨⟨.inl rfl, trivial⟩, ?_⟩
            have hqh : intBits (q * half) ≤ 145 := Nat.le_trans (intBits_mul_le hqb hhb) (by decide)
            have hqm : intBits (q * half - 1) ≤ 146 := Nat.le_trans (intBits_sub_le hqh hb1) (by decide)
            have hqp : intBits (q * half + 1) ≤ 146 := Nat.le_trans (intBits_add_le hqh hb1) (by decide)
            refine Ex_cons (ExS_if (Tst.mono (Φ := fun b => b = decide ((q * half - 1) ^ 2 < 4 * n * q * q ∧ 4 * n * q * q < (q * half + 1) ^ 2)) (Tst_cmp2 ?_) ?_))
            · refine Ev_bin (Ev_bin (Ev_bin (Ev_name rfl (Ev_name rfl (Bin_mul (IntMulOk.of_le hqb hhb (by decide)) ?_)))))
              repeat walk_at "mw"
              refine Bin_pow (by decide) (by omega) ?_
              refine Ev_bin (Ev_bin (Ev_bin (Ev_const_int (Ev_name rfl (Bin_mul (IntMulOk.of_le hb4 hnb (by decide)) (Ev_name rfl (Bin_mul (IntMulOk.of_le h4n hqb (by decide)) (Ev_name rfl (Bin_mul (IntMulOk.of_le h4nq hqb (by decide)) ?_)))))))))
              repeat walk_at "mw"
              refine ifD (fun h1 => ?_) (fun h1 => ?_)
              · refine Ev_bin (Ev_bin (Ev_bin (Ev_name rfl (Ev_name rfl (Bin_mul (IntMulOk.of_le hqb hhb (by decide)) ?_)))))
                repeat walk_at "mw"
                refine Bin_pow (by decide) (by omega) ?_
                repeat walk_at "mw"
                have h1' : (q * half - 1) ^ 2 < 4 * n * q * q := h1
                exact decide_eq_decide.mpr ⟨fun h2 => ⟨h1', h2⟩, fun h2 => h2.2⟩
              · exact (decide_eq_false fun h2 => h1 h2.1).symm
            · rintro _ rfl
              refine ifD (fun h1 => ?_) (fun h1 => ?_)
              · repeat walk_at "mw"
                rw [Int.fdiv_eq_ediv_of_nonneg _ (by decide), Int.fmod_eq_emod_of_nonneg _ (by decide)]
                rcases hh with ⟨rfl, rfl⟩ | ⟨rfl, rfl⟩
                · rw [if_pos h1]
                · rw [if_neg (hi1 (by decide)), if_pos h1]
              · repeat walk_at "mw"
                refine ⟨stD6 k n q, by walk_at "le", rfl, ?_, ?_⟩
                · intro _
                  rcases hh with ⟨rfl, rfl⟩ | ⟨rfl, rfl⟩
                  · exact h1
                  · exact hi1 (by decide)
                · intro h3
                  rcases hh with ⟨rfl, rfl⟩ | ⟨rfl, rfl⟩
                  · omega
                  · exact h1
          · rintro S' ⟨rfl, h1, h2⟩
            exact ⟨stD6 k n q, by walk_at "le", rfl, h1 (by simp), h2 (by simp)⟩
        · rintro _ ⟨rfl, h1, h2⟩
          repeat walk_at "mw"
          rw [if_neg h1, if_neg h2]
theorem f_due {g : GX} (hg : GOk g) : ∃ a, FnIs g "_law_due" a := FnIs_of (by rw [hg.p]; exact List.Mem.tail _ (List.Mem.tail _ (List.Mem.tail _ (List.Mem.head _))))

abbrev sqMsg : Str := Str.ofString "Both arguments to _sqrt_nearest should be positive."
theorem r_sqrt {g : GX} (hg : GOk g) {n a₀ : Int} (h : n ≤ 0 ∨ a₀ ≤ 0) : Raises g 1 "_sqrt_nearest" [.int n, .int a₀] "ValueError" sqMsg := by
  refine Raises_of (n := 0) (ns := [Str.ofString "n", Str.ofString "a"]) (hd := by rw [hg.p]; exact List.Mem.head _) ?_ rfl rfl (by decide) rfl rfl rfl ?_
  · intro vs pm cd doc hv
    match vs, hv with
    | [x, y], _ => rfl
  · intro A L a qual code
    refine ExR_if (Tst_boolop ?_) (ExR_raise rfl)
    repeat walk_at "mw"
    refine ifD (fun h1 => rfl) (fun h1 => ?_)
    repeat walk_at "mw"
    refine ifD (fun h2 => rfl) (fun h2 => ?_)
    omega

/-- str(error) == .. , in the clause -/
theorem suite_ret {C : CX} {msg : Str} {n : Str} {p1 p2 p3 p4 p5 p6 : Pos} {k₀ : Nat} (ok : C.Ok) (hs : C.env.kindOf "str" = some .globalImplicit) (hlo : C.env.kindOf n = some .local) (hd : (n == ("__debug__" : Str)) = false) (hcd : (n == ("__classdict__" : Str)) = false)
    (A' : Around) (s' : Shared) (e t : Addr) (u : Tok) (m : Str → Option Value) (Q' : Flow → Shared → Prop) (E' : Value → Shared → Prop) (hu : A'.units = C.A.units) (p : PG C.g s'.heap) (ns : s'.heap.Ns C.env.locals m) (hm : m n = some (.ref e)) (hx : s'.heap.ExcAt e "ValueError" (.ref t)) (ht : s'.heap.TupAt t [.str msg u])
    (k : ∀ tk, Q' (.ret (.bool true)) { s' with toks := tk }) :
    wpAny (model C.g.prog C.g.w) A' (execs [.Return (some (.Compare (.Call (.Name "str" p1) [.Name n p2] [] p3) [.Eq] [.Constant (.str msg) k₀ p4] p5)) p6] C.env) Q' E' s' := by
  refine wpAny_execs_cons (wpAny_Return_some (wpAny_Compare1 ?_ (by with_unfolding_all rfl)))
  refine wpAny_Call_Name_kw ?_
  refine Calls.Name_function_global ok.kind hs (Calls.loadGlobal_builtin (by rw [ok.glob]; exact p.top.g) (C.g.nob _ (by decide)) (by rw [ok.blt]; exact p.top.b) ((p.top.builtins _ (by decide)).trans boot_str) ?_) (by decide)
  refine PyProof.Rows.callWith_type rfl ?_
  show wpAny _ _ (evalArgs (.type "str") true [(false, _)] []) _ _ s'
  refine Calls.evalArgs_plain ?_
  show wpAny _ _ (spliced (backTo p3 (starEach [.Name n p2] C.env))) _ _ s'
  refine wpAny_items_cons (wpAny_Name (load_rd ok.kind (.inl ⟨hlo, m, ns, hm⟩) (wpAny_items_nil ?_) hcd) hd)
  refine P.str_of_exc_one PySem.F.excStr_ValueError (by rw [hu]; have := ok.room.units; omega) hx ht ?_
  refine wpAny_Constant_str (PyProof.Rows.eq_str ?_)
  rw [show (msg == msg) = true from beq_self_eq_true _]
  exact k _

theorem f_refused {g : GX} (hg : GOk g) : ∃ a, FnIs g "_law_refused" a := FnIs_of (by rw [hg.p]; exact List.Mem.tail _ (List.Mem.tail _ (List.Mem.tail _ (List.Mem.tail _ (List.Mem.tail _ (List.Mem.head _))))))
theorem x_refused {g : GX} (hg : GOk g) {n a₀ : Int} (h : n ≤ 0 ∨ a₀ ≤ 0) : CallsX g 2 "_law_refused" [.int n, .int a₀] fun v => v = .bool true := by
  refine CallsX_of (n := 1) (ns := [Str.ofString "n", Str.ofString "start"]) (hd := by rw [hg.p]; exact List.Mem.tail _ (List.Mem.tail _ (List.Mem.tail _ (List.Mem.tail _ (List.Mem.tail _ (List.Mem.head _)))))) ?_ rfl rfl (by decide) rfl rfl rfl ?_
  · intro vs pm cd doc hv
    match vs, hv with
    | [x, y], _ => rfl
  · intro A L a qual code
    refine ⟨fun ok env h₀ s₀ s Xs Q E hfr hLf fo p₀ k₀ hn₀ F p k => ?_⟩
    refine wpAny_execs_cons (try_go (nn := 1) (fl := .ret (.bool true)) ok hfr fo hLf p₀ k₀ hn₀ F p (Nat.le_refl _) rfl rfl rfl (f_sqrt hg) ?_ (fun A' s' e t u m Q' E' hu p' ns hm hx ht k' => suite_ret ok rfl rfl (by decide) (by decide) A' s' e t u m Q' E' hu p' ns hm hx ht k') ?_)
    · repeat walk_at "mw"
      exact r_sqrt hg h
    · intro h' tk v m _ _ hoff hup
      exact k (.bool true) h' tk (fun _ _ => rfl) hoff hup
set_option maxHeartbeats 4000000
set_option linter.unusedVariables false
abbrev s6A (k : Int) (ns : List Int) : AS := ⟨[("k", .int k), ("script", .lst (IL ns))], none⟩
abbrev s6B (l k : Int) (ns : List Int) : AS := ⟨[("lowest", .int l), ("k", .int k), ("script", .lst (IL ns))], none⟩
abbrev s6C (n l k : Int) (ns : List Int) : AS := ⟨[("n", .int n), ("lowest", .int l), ("k", .int k), ("script", .lst (IL ns))], none⟩
abbrev s6D (st z n l k : Int) (ns : List Int) : AS := ⟨[("start", .int st), ("z", .int z), ("n", .int n), ("lowest", .int l), ("k", .int k), ("script", .lst (IL ns))], none⟩
theorem c_law {g : GX} (hg : GOk g) {ns : List Int} (hns : ns.length ≤ 63) : LawIs g 2 ns := by
  refine ⟨_, _, [Str.ofString "script"], _, _, ⟨by rw [hg.p]; exact List.Mem.tail _ (List.Mem.tail _ (List.Mem.tail _ (List.Mem.tail _ (List.Mem.tail _ (List.Mem.tail _ (List.Mem.head _)))))), ?_, rfl, rfl, by decide, rfl, rfl, rfl, ?_⟩⟩
  · intro vs pm cd doc hv
    match vs, hv with
    | [x], _ => rfl
  intro A Lo ad qual code hOut
  have hlen : (IL ns).length = ns.length := List.length_map _
  refine Ex_cons (ExS_assign (Ev_cut (fun v => ∃ k : Int, v = .int k ∧ 0 < k ∧ k ≤ 1000000000000) ?_ ?_) ⟨.inl rfl, trivial⟩)
  · repeat walk_at "mw"
    refine Cmp_neL (lb := []) ?_
    repeat walk_at "mw"
    refine ifD (fun h => ?_) (fun h => ?_)
    · obtain ⟨x, hx⟩ : ∃ x, ns[0]? = some x := by
        cases ns with
        | nil => exact absurd rfl h
        | cons x r => exact ⟨x, rfl⟩
      repeat walk_at "mw"
      refine Ev_item (Ev_name rfl (Ev_const_int (Itm_list (by decide) (by decide) (av := .int x) (by rw [List.getElem?_map]; show Option.map _ (ns[0]?) = _; rw [hx]; rfl) ?_)))
      repeat walk_at "mw"
      refine Bin_pow (by decide) (by decide) ?_
      refine Bin_mod (by decide) ?_
      repeat walk_at "mw"
      rw [abs_if, Int.fmod_eq_emod_of_nonneg _ (by decide)]
      have e : (10 : Int) ^ (12 : Int).toNat = 1000000000000 := by decide
      rw [e]
      exact ⟨_, rfl, by omega, by omega⟩
    · repeat walk_at "mw"
      exact ⟨_, rfl, by decide, by decide⟩
  rintro _ ⟨k, rfl, hk, hk12⟩
  have hkb : intBits k ≤ 41 := lt_bits (by omega)
  refine Ex_cons (ExS_forT (nps := [(Str.ofString "n", _), (Str.ofString "start", _)]) rfl ?_)
  repeat walk_at "mw"
  refine ⟨_, .lst _, fun _ S' => S' = s6A k ns, ⟨s6A k ns, by walk_at "le", rfl⟩, ?_, ?_⟩
  · rintro i S' av hi rfl
    obtain ⟨n1, n2, rfl, hn⟩ : ∃ n1 n2 : Int, av = .tup [.int n1, .int n2] ∧ (n1 ≤ 0 ∨ n2 ≤ 0) := by
      match i, hi with
      | 0, hi => cases hi; exact ⟨_, _, rfl, .inr (by decide)⟩
      | 1, hi => cases hi; exact ⟨_, _, rfl, .inr (by omega)⟩
      | 2, hi => cases hi; exact ⟨_, _, rfl, .inl (by decide)⟩
      | 3, hi => cases hi; exact ⟨_, _, rfl, .inl (by omega)⟩
      | n + 4, hi => cases hi
    clear hi
    refine ⟨_, rfl, rfl, ?_, ?_⟩
    · intro x hx
      simp only [List.mem_cons, List.not_mem_nil, or_false] at hx
      rcases hx with rfl | rfl <;> exact ⟨.inl rfl, trivial⟩
    · refine Ex_cons (ExS_ifNotX (n := 2) hOut rfl (f_refused hg) (Nat.le_refl _) ?_ ?_)
      · repeat walk_at "mw"
        exact x_refused hg hn
      · repeat walk_at "mw"
        exact ⟨s6A k ns, by walk_at "le", rfl⟩
  rintro S' rfl
  refine Ex_cons (ExS_assign (Ev_cut (fun v => ∃ p : Int, v = .int p ∧ 0 ≤ p ∧ p < 2 * k) ?_ ?_) ⟨.inl rfl, trivial⟩)
  · repeat walk_at "mw"
    rw [hlen]
    refine ifD (fun h => ?_) (fun h => ?_)
    · obtain ⟨x, hx⟩ : ∃ x, ns[1]? = some x := ⟨ns[1]'(by omega), by simp⟩
      refine Ev_bin (Ev_item (Ev_name rfl (Ev_const_int (Itm_list (by decide) (by decide) (av := .int x) (by rw [List.getElem?_map]; show Option.map _ (ns[1]?) = _; rw [hx]; rfl) ?_))))
      have h2k : 2 * k ≠ 0 := by omega
      repeat walk_at "mw"
      rw [Int.fmod_eq_emod_of_nonneg _ (by omega)]
      exact ⟨_, rfl, Int.emod_nonneg _ (by omega), Int.emod_lt_of_pos _ (by omega)⟩
    · repeat walk_at "mw"
      exact ⟨_, rfl, by omega, by omega⟩
  rintro _ ⟨p, rfl, hp0, hp2⟩
  refine Ex_cons (ExS_assign (Ev_bin (Ev_bin (Ev_bin (Ev_name rfl (Ev_name rfl (Bin_mul (IntMulOk.of_le hkb hkb (by decide)) ?_)))))) ⟨.inl rfl, trivial⟩)
  repeat walk_at "mw"
  have ekk : k * (k - 1) = k * k - k := by grind
  have ekk' : k * (k + 1) = k * k + k := by grind
  have hkkb := intBits_mul_le hkb hkb
  refine ExS_for ?_
  repeat walk_at "mw"
  refine ⟨_, .lst _, fun _ S' => S' = s6B (k * k - k + 1) k ns, ⟨s6B (k * k - k + 1) k ns, by walk_at "le", rfl⟩, ?_, ?_⟩
  · rintro i S' av hi rfl
    obtain ⟨n, rfl, hn⟩ : ∃ n : Int, av = .int n ∧ Rt n k := by
      match i, hi with
      | 0, hi => cases hi; exact ⟨_, rfl, hk, by omega, by omega⟩
      | 1, hi => cases hi; exact ⟨_, rfl, hk, by omega, by omega⟩
      | 2, hi => cases hi; exact ⟨_, rfl, hk, by omega, by omega⟩
      | n + 3, hi => cases hi
    clear hi
    have hnp : 0 < n := by
      have := hn.lo
      have : 0 ≤ k * (k - 1) := Int.mul_nonneg (by omega) (by omega)
      omega
    have hnb : intBits n ≤ 90 := by
      have h1 := hn.hi
      have h2 : k * (k + 1) ≤ 1000000000000 * 1000000000001 := Int.mul_le_mul hk12 (by omega) (by omega) (by decide)
      exact lt_bits (by omega)
    refine ⟨⟨.inl rfl, trivial⟩, ?_⟩
    refine Ex_cons (ExS_for (Ev_bin (Ev_cut (fun v => ∃ l : List Int, v = .lst (IL l) ∧ l.length ≤ 63) ?_ ?_)))
    · refine Ev_slice (Ev_name rfl (Ev_const_int (Ev_const_int ⟨_, rfl, by decide, by omega, ?_⟩)))
      rw [pick_plain]
      refine ⟨(ns.drop (clipAt (IL ns).length 2)).take (clipAt (IL ns).length 5 - clipAt (IL ns).length 2), ?_, ?_⟩
      · simp [IL, List.map_take, List.map_drop]
      · rw [List.length_take, List.length_drop]; omega
    · rintro _ ⟨l, rfl, hl⟩
      repeat walk_at "mw"
      refine Bin_addL (by simp; omega) ?_
      rw [show IL l ++ [AV.int 0, .int 1, .int (4 * k - 1)] = IL (l ++ [0, 1, 4 * k - 1]) from by simp [IL]]
      refine ⟨_, .lst _, fun _ S' => S' = s6C n (k * k - k + 1) k ns, ⟨s6C n (k * k - k + 1) k ns, by walk_at "le", rfl⟩, ?_, ?_⟩
      · rintro i S' av hi rfl
        obtain ⟨z, _, rfl⟩ := IL_get hi
        clear hi
        refine ⟨⟨.inl rfl, trivial⟩, ?_⟩
        refine Ex_cons (ExS_assign (Ev_cut (fun v => ∃ st : Int, v = .int st ∧ 0 < st) ?_ ?_) ⟨.inl rfl, trivial⟩)
        · repeat walk_at "mw"
          refine Bin_pow (by decide) (by decide) ?_
          refine Bin_mod (by decide) ?_
          repeat walk_at "mw"
          rw [Int.fmod_eq_emod_of_nonneg _ (by decide)]
          have := Int.emod_nonneg (if z < 0 then -z else z) (show (10 : Int) ^ (20 : Int).toNat ≠ 0 by decide)
          exact ⟨_, rfl, by omega⟩
        rintro _ ⟨st, rfl, hst⟩
        refine Ex_cons (ExS_for (Ev_cut (fun v => ∃ g1 g2 : Int, v = .lst (IL [g1, g2]) ∧ 0 < g1 ∧ intBits g1 ≤ 101 ∧ 0 < g2 ∧ intBits g2 ≤ 101) ?_ ?_))
        · have hne : 8 * k + 8 ≠ 0 := by omega
          repeat walk_at "mw"
          refine Bin_pow (by decide) (by decide) ?_
          refine Bin_mod (by decide) ?_
          repeat walk_at "mw"
          rw [Int.fmod_eq_emod_of_nonneg _ (show 0 ≤ 8 * k + 8 by omega), Int.fmod_eq_emod_of_nonneg _ (show (0 : Int) ≤ 10 ^ (12 : Int).toNat by decide)]
          have h1 := Int.emod_nonneg (if z < 0 then -z else z) hne
          have h2 := Int.emod_lt_of_pos (if z < 0 then -z else z) (show 0 < 8 * k + 8 by omega)
          have e : (10 : Int) ^ (12 : Int).toNat = 1000000000000 := by decide
          rw [e]
          have h3 := Int.emod_nonneg (if z < 0 then -z else z) (show (1000000000000 : Int) ≠ 0 by decide)
          have h4 := Int.emod_lt_of_pos (if z < 0 then -z else z) (show (0 : Int) < 1000000000000 by decide)
          generalize (if z < 0 then -z else z) % (8 * k + 8) = u at *
          generalize (if z < 0 then -z else z) % 1000000000000 = v at *
          refine ⟨by omega, Nat.le_trans (lt_bits (m := 60) (by omega)) (by decide), by omega, Nat.le_trans (lt_bits (m := 60) (by omega)) (by decide)⟩
        rintro _ ⟨g1, g2, rfl, p1, q1, p2, q2⟩
        have hnq : ∀ {q : Int}, 0 < q → 0 < n * q * q := fun hq => Int.mul_pos (Int.mul_pos hnp hq) hq
        refine ⟨_, .lst _, fun _ S' => S' = s6D st z n (k * k - k + 1) k ns, ⟨s6D st z n (k * k - k + 1) k ns, by walk_at "le", rfl⟩, ?_, ?_⟩
        · rintro i S' av hi rfl
          obtain ⟨q, rfl, hq, hqb⟩ : ∃ q : Int, av = .int q ∧ 0 < q ∧ intBits q ≤ 101 := by
            match i, hi with
            | 0, hi => cases hi; exact ⟨_, rfl, p1, q1⟩
            | 1, hi => cases hi; exact ⟨_, rfl, p2, q2⟩
            | n + 2, hi => cases hi
          clear hi
          refine ⟨⟨.inl rfl, trivial⟩, ?_⟩
          have hN := hnq hq
          have hr := rt_spec hN
          refine Ex_cons (ExS_assign (Ev_call (n := 1) rfl (Evs_cons (Ev_call (n := 1) rfl (Evs_cons (Ev_bin (Ev_bin (Ev_name rfl (Ev_name rfl (Bin_mul (IntMulOk.of_le hnb hqb (by decide)) (Ev_name rfl (Bin_mul (IntMulOk.of_le (intBits_mul_le hnb hqb) hqb (by decide)) ?_)))))))) (show 1 ≤ 2 by decide) (hg := f_sqrt hg))) (show 1 ≤ 2 by decide) (hg := f_div hg)) ⟨.inl rfl, trivial⟩)
          repeat walk_at "mw"
          refine (c_sqrt hg hN hst).mono ?_
          rintro _ rfl
          repeat walk_at "mw"
          refine (c_div hg hq).mono ?_
          rintro _ rfl
          refine Ex_cons (ExS_if (Tst_not (Tst_val (Ev_call (n := 1) rfl (Evs_cons (Ev_name rfl (Evs_cons (Ev_call (n := 1) rfl ?_ (show 1 ≤ 2 by decide) (hg := f_due hg))))) (show 1 ≤ 2 by decide) (hg := f_same hg)))))
          repeat walk_at "mw"
          refine (c_due hg hk hkb hnb hqb).mono ?_
          rintro _ rfl
          repeat walk_at "mw"
          refine (c_same hg (due_spec hk hn hq hr)).mono ?_
          rintro _ rfl
          repeat walk_at "mw"
          exact ⟨s6D st z n (k * k - k + 1) k ns, by walk_at "le", rfl⟩
        rintro S' rfl
        refine Ex_cons (ExS_assign (Ev_cut (fun v => ∃ b : Nat, v = .int (b : Int) ∧ b < 100) ?_ ?_) ⟨.inl rfl, trivial⟩)
        · repeat walk_at "mw"
          rw [Int.fmod_eq_emod_of_nonneg _ (by decide)]
          have h3 := Int.emod_nonneg (if z < 0 then -z else z) (show (100 : Int) ≠ 0 by decide)
          have h4 := Int.emod_lt_of_pos (if z < 0 then -z else z) (show (0 : Int) < 100 by decide)
          exact ⟨((if z < 0 then -z else z) % 100).toNat, by rw [Int.toNat_of_nonneg h3], by omega⟩
        rintro _ ⟨b, rfl, hb⟩
        have hq := two_pos b
        have hqb : intBits ((2 : Int) ^ b) ≤ 101 := by
          refine lt_bits ?_
          have : ((2 : Int) ^ b).natAbs = 2 ^ b := by rw [Int.natAbs_pow]; rfl
          rw [this]
          exact Nat.pow_lt_pow_right (by decide) (by omega)
        have hN := hnq hq
        have hr := rt_spec hN
        have eN : n * 2 ^ (2 * (b : Int)).toNat = n * 2 ^ b * 2 ^ b := by
          rw [Int.mul_assoc, ← Int.pow_add]; congr 2; omega
        refine Ex_cons (ExS_assign (Ev_call (n := 1) rfl (Evs_cons (Ev_call (n := 1) rfl (Evs_cons (Ev_bin (Ev_name rfl (Ev_bin (Ev_const_int (Ev_name rfl (Bin_mul (IntMulOk.of_left (by decide)) (Bin_shl (by omega) (by omega) ?_)))))))) (show 1 ≤ 2 by decide) (hg := f_sqrt hg))) (show 1 ≤ 2 by decide) (hg := f_rsh hg)) ⟨.inl rfl, trivial⟩)
        rw [eN]
        repeat walk_at "mw"
        refine (c_sqrt hg hN hst).mono ?_
        rintro _ rfl
        repeat walk_at "mw"
        refine (c_rsh hg (by omega)).mono ?_
        rintro _ rfl
        refine Ex_cons (ExS_if (Tst_not (Tst_val (Ev_call (n := 1) rfl (Evs_cons (Ev_name rfl (Evs_cons (Ev_call (n := 1) rfl (Evs_cons (Ev_name rfl (Evs_cons (Ev_name rfl (Evs_cons (Ev_bin (Ev_const_int (Ev_name rfl (Bin_pow (by omega) (by rw [show intBits 2 = 2 from rfl]; omega) ?_))))))))) (show 1 ≤ 2 by decide) (hg := f_due hg))))) (show 1 ≤ 2 by decide) (hg := f_same hg)))))
        rw [Int.toNat_natCast]
        repeat walk_at "mw"
        refine (c_due hg hk hkb hnb hqb).mono ?_
        rintro _ rfl
        repeat walk_at "mw"
        refine (c_same hg (due_spec hk hn hq hr)).mono ?_
        rintro _ rfl
        repeat walk_at "mw"
        exact ⟨s6C n (k * k - k + 1) k ns, by walk_at "le", rfl⟩
      · rintro S' rfl
        repeat walk_at "mw"
        exact ⟨s6B (k * k - k + 1) k ns, by walk_at "le", rfl⟩
  · rintro S' rfl
    repeat walk_at "mw"
    rfl
theorem holds06 : PySem.Challenge.rw_dm0263_06.Holds := hd (by
  k_fill
  intro w s₀ s₁ mg mb G Y fa o pm cd doc dV kV ho hd' hcd hD hmg hg args vals as hpre hlay hrd hwl hlo
  refine Ground.open G ?_
  intro T B D TE TW
  have KX := kIn_of Y
  wrow_args hpre hlay hrd hwl hlo
  rename_i ns _ _ hLay _ _ _ _ la vs _ hL _ _ _ hI _ hlen _
  have nob : ∀ x ∈ bltNames, mg x = none := by
    intro x hx
    simp only [bltNames, List.mem_cons, List.not_mem_nil, or_false] at hx
    rcases hx with rfl | rfl | rfl | rfl | rfl | rfl | rfl | rfl | rfl | rfl | rfl | rfl | rfl | rfl <;> exact T.free _ (by decide +kernel) (by decide +kernel) (by decide +kernel) (by decide +kernel) (by decide +kernel)
  refine law_goA (l := PySem.Challenge.rw_dm0263_06) (g := ⟨_, w, _, _, _, mg, mb, (hd.heap_39 w.params).In, fun _ _ x k => Frag.In.keeps x k, rfl, by decide +kernel, ⟨_, T, KX⟩, nob⟩) rfl ⟨T, KX⟩ hg hmg hL hI (n := 2) (by decide) (c_law ⟨rfl, rfl⟩ (by omega)))
end Mine
theorem PySem.Challenge.cw_dm0263_06_holds : PySem.Challenge.rw_dm0263_06.Holds :=
  Mine.holds06
